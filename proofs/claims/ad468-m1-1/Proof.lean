import JvmDerived
import JvmDerived.Pilot.@@N@@Statement
import JvmDerived.Pilot.@@N@@Code
set_option linter.unusedVariables false
set_option linter.unusedSimpArgs false
@@BLOCK:NumsL.lean.txt@@
namespace Jvm.Pilot.@@N@@
open Jvm Jvm.ClassFile Sem Op Lib Jvm.Free Jvm.Stand Jvm.LawKit Jvm.RoadKit Bundle Jvm.Pilot.@@N@@.Jvm.D
def own_Go (p : Program) (e : Env) (below : List Frame) (G : Outcome → State → Prop) (t : State) : Prop :=
  ∃ s₂ o, Steps p.tables e below t s₂ ∧ s₂.status = .running ∧ Ended s₂ below o ∧ G o s₂
def own_G (s : State) (Q : Option Value → Heap → List Loc → Prop) (C S : Nat) (o : Outcome) (U : State) : Prop :=
  ∃ v L, o = .returned v ∧ Q v U.heap L ∧ FrameEnd s o U L C S
def own_Met (l : Launch) (Z : State) (y : MethodName) (bytes : ByteArray) (maxL : Nat) (rt : Option FieldType) (rm : Room) (as : Array Value) (h : Heap) (Q : Option Value → Heap → List Loc → Prop) : Prop :=
  MetFree l y (head1 [Jvm.Cond.code y bytes maxL rt] rm) (fun a U => a = as ∧ Z.Warmed39 U.vm ∧ U.heap = h) (fun _ _ _ _ _ => True) (fun _ U o U' => ∃ v L, o = .returned v ∧ Q v U'.heap L ∧ FrameEnd U o U' L rm.cells rm.slots)
def own_MetL (l : Launch) (Z : State) (as : Array Value) (h : Heap) (Q : Option Value → Heap → List Loc → Prop) : Prop :=
  MetFree l x (head1 (Jvm.Cond.code x code maxLocals ret :: tables_1) room_1) (fun a U => a = as ∧ Z.Warmed39 U.vm ∧ U.heap = h) (fun _ _ _ _ _ => True) (fun _ U o U' => ∃ v L, o = .returned v ∧ Q v U'.heap L ∧ FrameEnd U o U' L room_1.cells room_1.slots)
theorem own_pays {l : Launch} {Z : State} {p : Program} {e : Env} {R : Room} {s : State} {args : Array Value} {below : List Frame} {a0 : Array Value} {h : Heap} {y : MethodName} {bytes : ByteArray} {maxL : Nat} {rt : Option FieldType} {rm : Room} {len W : Nat} {as' : Array Value} {Q : Option Value → Heap → List Loc → Prop}
    (hM : own_Met l Z y bytes maxL rt rm as' h Q) (hZ : Z.Warmed39 s.vm) (wc : (Jvm.Cond.code y bytes maxL rt).before a0 Z = true) (wz : (Jvm.Cond.initialized y.cls).before a0 Z = true) (hf : rm.frames + 1 ≤ R.frames) (hl : W + (maxL + 11) + rm.locals ≤ R.locals) :
    Back l R p e below s args y len W (fun A a => a = as' ∧ A.U.heap = h ∧ A.cells + rm.cells ≤ R.cells ∧ A.slots + rm.slots ≤ R.slots)
      (fun A _ v B => ∃ L, Q v B.U.heap L ∧ B.locs = A.locs ++ L ∧ B.cells = A.cells + rm.cells ∧ B.slots = A.slots + rm.slots) :=
  backOf hM hZ wc wz hf hl
section OwnSteps
variable {p : Program} {l : Launch} {e : Env} {R : Room} {s : State} {m : MethodId} {args : Array Value} {below : List Frame} {meth : Method} {c : Code} {T : State} {locs : List Loc} {cells slots : Nat} {h : Heap} {G : Outcome → State → Prop} {t t' : State} {Q : Option Value → Heap → List Loc → Prop} {C S pc : Nat} {Ls : Array Slot} {rest : List Value}
theorem own_go (k : Steps p.tables e below t t') (r : own_Go p e below G t') : own_Go p e below G t := by
  obtain ⟨s₂, o, h1, h2⟩ := r
  exact ⟨s₂, o, k.trans h1, h2⟩
theorem own_ret (X : Stand p l e R s m args below meth c T locs cells slots) (hx : p.tables.exec = Jvm.exec) (hlk : meth.locks = false) (eT : T.heap = h) {w : Value} {ty : FieldType} {i : Instr} (hret : meth.sig.returnType = some ty) (hn : narrow ty w = w)
    (hi : (i = .ireturn ∧ (ty = .int ∨ ty = .boolean ∨ ty = .byte ∨ ty = .char ∨ ty = .short) ∧ ∃ z, w = .int z) ∨ (i = .lreturn ∧ ty = .long ∧ ∃ z, w = .long z) ∨ (i = .dreturn ∧ ty = .double ∧ ∃ z, w = .double z) ∨ (i = .freturn ∧ ty = .float ∧ ∃ z, w = .float z) ∨ (i = .areturn ∧ ty.isReference = true ∧ w.isRef = true))
    (hd : decode c.code pc = .ok (i, 1)) (hQ : Q (some w) h locs) (hc : cells ≤ C) (hs : slots ≤ S) : own_Go p e below (own_G s Q C S) (T.setTop (mkF m pc Ls (w :: rest))) := by
  obtain ⟨fs, hr, hrun, hended, hW, hsame⟩ := X.leave (v := some w) (fun q => by rw [hret] at q; cases q)
  exact ⟨_, _, retOut X hx hret hn hi hd hr, hrun, hended, _, _, rfl, by show Q _ T.heap _; rw [eT]; exact hQ, ⟨_, rfl⟩, hW, hsame.mono hc hs⟩
theorem own_retI (X : Stand p l e R s m args below meth c T locs cells slots) (hx : p.tables.exec = Jvm.exec) (hlk : meth.locks = false) (eT : T.heap = h) {z : Int32} (hret : meth.sig.returnType = some .int) (hd : decode c.code pc = .ok (.ireturn, 1)) (hQ : Q (some (.int z)) h locs) (hc : cells ≤ C) (hs : slots ≤ S) : own_Go p e below (own_G s Q C S) (T.setTop (mkF m pc Ls (.int z :: rest))) :=
  own_ret X hx hlk eT hret rfl (Or.inl ⟨rfl, Or.inl rfl, z, rfl⟩) hd hQ hc hs
theorem own_retZ (X : Stand p l e R s m args below meth c T locs cells slots) (hx : p.tables.exec = Jvm.exec) (hlk : meth.locks = false) (eT : T.heap = h) {z : Int32} (hret : meth.sig.returnType = some .boolean) (hd : decode c.code pc = .ok (.ireturn, 1)) (hz : z = 0 ∨ z = 1) (hQ : Q (some (.int z)) h locs) (hc : cells ≤ C) (hs : slots ≤ S) : own_Go p e below (own_G s Q C S) (T.setTop (mkF m pc Ls (.int z :: rest))) :=
  own_ret X hx hlk eT hret (by rcases hz with rfl | rfl <;> rfl) (Or.inl ⟨rfl, Or.inr (Or.inl rfl), z, rfl⟩) hd hQ hc hs
theorem own_retJ (X : Stand p l e R s m args below meth c T locs cells slots) (hx : p.tables.exec = Jvm.exec) (hlk : meth.locks = false) (eT : T.heap = h) {z : Int64} (hret : meth.sig.returnType = some .long) (hd : decode c.code pc = .ok (.lreturn, 1)) (hQ : Q (some (.long z)) h locs) (hc : cells ≤ C) (hs : slots ≤ S) : own_Go p e below (own_G s Q C S) (T.setTop (mkF m pc Ls (.long z :: rest))) :=
  own_ret X hx hlk eT hret rfl (Or.inr (Or.inl ⟨rfl, rfl, z, rfl⟩)) hd hQ hc hs
theorem own_retA (X : Stand p l e R s m args below meth c T locs cells slots) (hx : p.tables.exec = Jvm.exec) (hlk : meth.locks = false) (eT : T.heap = h) {a : Addr} {ty : FieldType} (hret : meth.sig.returnType = some ty) (ht : ty.isReference = true) (hd : decode c.code pc = .ok (.areturn, 1)) (hQ : Q (some (.ref a)) h locs) (hc : cells ≤ C) (hs : slots ≤ S) : own_Go p e below (own_G s Q C S) (T.setTop (mkF m pc Ls (.ref a :: rest))) :=
  own_ret X hx hlk eT hret (by cases ty <;> first | rfl | cases ht) (Or.inr (Or.inr (Or.inr (Or.inr ⟨rfl, ht, rfl⟩)))) hd hQ hc hs
theorem own_retV (X : Stand p l e R s m args below meth c T locs cells slots) (hx : p.tables.exec = Jvm.exec) (hlk : meth.locks = false) (eT : T.heap = h) (hret : meth.sig.returnType = none) (hd : decode c.code pc = .ok (.return_, 1)) (hQ : Q none h locs) (hc : cells ≤ C) (hs : slots ≤ S) : own_Go p e below (own_G s Q C S) (T.setTop (mkF m pc Ls [])) := by
  obtain ⟨fs, hr, hrun, hended, hW, hsame⟩ := X.leave (v := none) (fun _ => rfl)
  exact ⟨_, _, X.returnOut hx hret hd hr, hrun, hended, _, _, rfl, by show Q _ T.heap _; rw [eT]; exact hQ, ⟨_, rfl⟩, hW, hsame.mono hc hs⟩
end OwnSteps
def own_b (P : Prop) [Decidable P] : Int32 := if P then 1 else 0
theorem own_b_t {P : Prop} [Decidable P] (h : P) : own_b P = 1 := if_pos h
theorem own_b_f {P : Prop} [Decidable P] (h : ¬ P) : own_b P = 0 := if_neg h
theorem own_b_nz {P : Prop} [Decidable P] (h : P) : ¬ own_b P = 0 := by rw [own_b_t h]; decide
theorem own_b_01 (P : Prop) [Decidable P] : own_b P = 0 ∨ own_b P = 1 := by
  by_cases h : P
  · exact Or.inr (own_b_t h)
  · exact Or.inl (own_b_f h)
theorem own_tltJ {x y : Int64} (h : x < y) : ifCond.holds .lt (lcmpW x y) = true ∧ ifCond.holds .ge (lcmpW x y) = false := by
  have q := tlt (show lcmpW x y < 0 by rw [lcW]; exact (lc_lt x y).mpr h)
  exact ⟨(if0 _ _).trans q.1, (if0 _ _).trans q.2.1⟩
theorem own_fltJ {x y : Int64} (h : ¬ x < y) : ifCond.holds .lt (lcmpW x y) = false ∧ ifCond.holds .ge (lcmpW x y) = true := by
  have q := flt (show ¬ lcmpW x y < 0 by rw [lcW]; exact fun z => h ((lc_lt x y).mp z))
  exact ⟨(if0 _ _).trans q.1, (if0 _ _).trans q.2.1⟩
theorem own_tgtJ {x y : Int64} (h : y < x) : ifCond.holds .gt (lcmpW x y) = true ∧ ifCond.holds .le (lcmpW x y) = false := by
  have q := tlt (show 0 < lcmpW x y by rw [lcW]; exact (lc_gt x y).mpr h)
  exact ⟨(if0 _ _).trans q.2.2.1, (if0 _ _).trans q.2.2.2⟩
theorem own_fgtJ {x y : Int64} (h : ¬ y < x) : ifCond.holds .gt (lcmpW x y) = false ∧ ifCond.holds .le (lcmpW x y) = true := by
  have q := flt (show ¬ 0 < lcmpW x y by rw [lcW]; exact fun z => h ((lc_gt x y).mp z))
  exact ⟨(if0 _ _).trans q.2.2.1, (if0 _ _).trans q.2.2.2⟩
theorem own_teqJ {x y : Int64} (h : x = y) : ifCond.holds .eq (lcmpW x y) = true ∧ ifCond.holds .ne (lcmpW x y) = false := by
  have q := teq (show lcmpW x y = 0 by rw [lcW]; exact (lc_eq x y).mpr h)
  exact ⟨(if0 _ _).trans q.1, (if0 _ _).trans q.2⟩
theorem own_feqJ {x y : Int64} (h : ¬ x = y) : ifCond.holds .eq (lcmpW x y) = false ∧ ifCond.holds .ne (lcmpW x y) = true := by
  have q := feq (show ¬ lcmpW x y = 0 by rw [lcW]; exact fun z => h ((lc_eq x y).mp z))
  exact ⟨(if0 _ _).trans q.1, (if0 _ _).trans q.2⟩
section OwnHeap
variable {p : Program} {l : Launch} {e : Env} {R : Room} {s : State} {m : MethodId} {args : Array Value} {below : List Frame} {meth : Method} {c : Code} {T : State} {locs : List Loc} {cells slots : Nat} {Z : State} {a0 : Array Value} {h : Heap} {a : Addr} {k : ClassId} {n j : Int32} {vs : List Value} {dv : Value} {g : JFrame} {rest : List Value}
theorem own_newP (X : Stand p l e R s m args below meth c T locs cells slots) (hx : p.tables.exec = Jvm.exec) (hZ : Z.Warmed39 s.vm) {aty : ArrayType} (w : (Cond.arrayClass (newarray.typeOf aty)).before a0 Z = true) (eT : T.heap = h) (hg : g.method = m) (hd : decode c.code g.pc = .ok (.newarray aty, 2)) (hs : g.stack = .int n :: rest)
    (hn : ¬ n < 0) {cap : Nat} (hcap : n.toNatClampNeg ≤ cap) (hb : cap * 8 ≤ 536870912) (hc : cells + 1 ≤ R.cells) (hl : slots + cap ≤ R.slots) :
    ∃ T' h' cA a, a = h.size ∧ Stand p l e R s m args below meth c T' locs (cells + 1) (slots + cap) ∧ T'.heap = h' ∧ Ext h h' ∧ Arv Z h' a cA (newarray.typeOf aty) n (List.replicate cap (defaultValue (newarray.typeOf aty))) (defaultValue (newarray.typeOf aty)) ∧
      Steps p.tables e below (T.setTop g) (T'.setTop { g with pc := g.pc + 2, stack := .ref a :: rest }) := by
  obtain ⟨T', h', cA, X', e', E, A, st⟩ := newP X hx hZ w eT hg hd hs hn hcap hb hc hl
  exact ⟨T', h', cA, _, rfl, X', e', E, (Arv.new A hn).pad (pad_rep [] _ cap), st _ (Steps.refl _)⟩
theorem own_newO (X : Stand p l e R s m args below meth c T locs cells slots) (hx : p.tables.exec = Jvm.exec) (hZ : Z.Warmed39 s.vm) {own C : String} {index n : Nat} (hown : s.vm.findClass own = some m.cls) (w : (Cond.classLink own index C).before a0 Z = true) (wi : (Cond.instantiable C n).before a0 Z = true) (wz : (Cond.initialized C).before a0 Z = true) (eT : T.heap = h)
    (hg : g.method = m) (hd : decode c.code g.pc = .ok (.new index, 3)) (hc : cells + 1 ≤ R.cells) (hl : slots + n ≤ R.slots) :
    ∃ T' h' a, a = h.size ∧ Stand p l e R s m args below meth c T' locs (cells + 1) (slots + n) ∧ T'.heap = h' ∧ Ext h h' ∧ Exa Z h' a C ∧ (∀ {O nm d : String} {ty : FieldType}, Laid Z a0 C O nm d → parseFieldDescriptor d = some ty → Fld Z h' a O nm d (defaultValue ty)) ∧
      Steps p.tables e below (T.setTop g) (T'.setTop { g with pc := g.pc + 3, stack := .ref a :: g.stack }) := by
  obtain ⟨T', h', X', e', E, A, D, -, st⟩ := newO X hx hZ hown w wi wz eT hg hd hc hl
  exact ⟨T', h', _, rfl, X', e', E, A, D, st _ (Steps.refl _)⟩
theorem own_stI (X : Stand p l e R s m args below meth c T locs cells slots) (hx : p.tables.exec = Jvm.exec) (hZ : Z.Warmed39 s.vm) (eT : T.heap = h) (F : Arv Z h a k .int n vs dv) (h0 : ¬ j < 0) (h1 : j < n) {x : Int32} (hg : g.method = m) (hs : g.stack = .int x :: .int j :: .ref a :: rest) (hd : decode c.code g.pc = .ok (.iastore, 1)) {i : Nat} (hi : j.toNatClampNeg = i) (hl : i < vs.length) :
    ∃ T' h', Stand p l e R s m args below meth c T' (locs ++ [⟨a, j.toNatClampNeg⟩]) cells slots ∧ T'.heap = h' ∧ Wr h h' a j.toNatClampNeg (.int x) ∧ Arv Z h' a k .int n (vs.set i (.int x)) dv ∧ Steps p.tables e below (T.setTop g) (T'.setTop { g with pc := g.pc + 1, stack := rest }) := by
  obtain ⟨cl, A, q1, S, q3, H, G⟩ := F
  obtain ⟨T', h', X', e', W, st⟩ := stI X hx hZ eT A (inb_of S ⟨h0, h1⟩) hg hs hd
  exact ⟨T', h', X', e', W, Arv.set A q1 S q3 H G rfl W i hi hl, st _ (Steps.refl _)⟩
theorem own_stC (X : Stand p l e R s m args below meth c T locs cells slots) (hx : p.tables.exec = Jvm.exec) (hZ : Z.Warmed39 s.vm) (eT : T.heap = h) (F : Arv Z h a k .char n vs dv) (h0 : ¬ j < 0) (h1 : j < n) {x : Int32} (hg : g.method = m) (hs : g.stack = .int x :: .int j :: .ref a :: rest) (hd : decode c.code g.pc = .ok (.castore, 1)) {i : Nat} (hi : j.toNatClampNeg = i) (hl : i < vs.length) :
    ∃ T' h', Stand p l e R s m args below meth c T' (locs ++ [⟨a, j.toNatClampNeg⟩]) cells slots ∧ T'.heap = h' ∧ Wr h h' a j.toNatClampNeg (.int (nar .char x)) ∧ Arv Z h' a k .char n (vs.set i (.int (nar .char x))) dv ∧ Steps p.tables e below (T.setTop g) (T'.setTop { g with pc := g.pc + 1, stack := rest }) := by
  obtain ⟨cl, A, q1, S, q3, H, G⟩ := F
  obtain ⟨T', h', X', e', W, st⟩ := stC X hx hZ eT A (inb_of S ⟨h0, h1⟩) hg hs hd
  exact ⟨T', h', X', e', W, Arv.set A q1 S q3 H G (fits_nar_char _) W i hi hl, st _ (Steps.refl _)⟩
theorem own_stB (X : Stand p l e R s m args below meth c T locs cells slots) (hx : p.tables.exec = Jvm.exec) (hZ : Z.Warmed39 s.vm) (eT : T.heap = h) (F : Arv Z h a k .byte n vs dv) (h0 : ¬ j < 0) (h1 : j < n) {x : Int32} (hg : g.method = m) (hs : g.stack = .int x :: .int j :: .ref a :: rest) (hd : decode c.code g.pc = .ok (.bastore, 1)) {i : Nat} (hi : j.toNatClampNeg = i) (hl : i < vs.length) :
    ∃ T' h', Stand p l e R s m args below meth c T' (locs ++ [⟨a, j.toNatClampNeg⟩]) cells slots ∧ T'.heap = h' ∧ Wr h h' a j.toNatClampNeg (.int (nar .byte x)) ∧ Arv Z h' a k .byte n (vs.set i (.int (nar .byte x))) dv ∧ Steps p.tables e below (T.setTop g) (T'.setTop { g with pc := g.pc + 1, stack := rest }) := by
  obtain ⟨cl, A, q1, S, q3, H, G⟩ := F
  obtain ⟨T', h', X', e', W, st⟩ := stB X hx hZ eT A (inb_of S ⟨h0, h1⟩) hg hs hd
  exact ⟨T', h', X', e', W, Arv.set A q1 S q3 H G (fits_nar_byte _) W i hi hl, st _ (Steps.refl _)⟩
theorem own_ldI (X : Stand p l e R s m args below meth c T locs cells slots) (hx : p.tables.exec = Jvm.exec) (hZ : Z.Warmed39 s.vm) (eT : T.heap = h) (F : Arv Z h a k .int n vs dv) (h0 : ¬ j < 0) (h1 : j < n) {v : Int32} (hv : vs.getD j.toNatClampNeg dv = .int v) (hg : g.method = m) (hs : g.stack = .int j :: .ref a :: rest) (hd : decode c.code g.pc = .ok (.iaload, 1)) :
    Steps p.tables e below (T.setTop g) (T.setTop { g with pc := g.pc + 1, stack := .int v :: rest }) := by
  obtain ⟨cl, A, q1, S, q3, H, G⟩ := F
  exact X.iaload hx (j := j) (v := .int v) (by rw [eT]; exact A.1) (State.isArrayOf_alike hZ.alike A.2.1) A.2.2 (inb_of S ⟨h0, h1⟩) (H.at (inb_of S ⟨h0, h1⟩) hv) hg hs hd _ (Steps.refl _)
theorem own_ldC (X : Stand p l e R s m args below meth c T locs cells slots) (hx : p.tables.exec = Jvm.exec) (hZ : Z.Warmed39 s.vm) (eT : T.heap = h) (F : Arv Z h a k .char n vs dv) (h0 : ¬ j < 0) (h1 : j < n) {v : Int32} (hv : vs.getD j.toNatClampNeg dv = .int v) (hg : g.method = m) (hs : g.stack = .int j :: .ref a :: rest) (hd : decode c.code g.pc = .ok (.caload, 1)) :
    Steps p.tables e below (T.setTop g) (T.setTop { g with pc := g.pc + 1, stack := .int v :: rest }) := by
  obtain ⟨cl, A, q1, S, q3, H, G⟩ := F
  exact X.caload hx (j := j) (v := .int v) (by rw [eT]; exact A.1) (State.isArrayOf_alike hZ.alike A.2.1) A.2.2 (inb_of S ⟨h0, h1⟩) (H.at (inb_of S ⟨h0, h1⟩) hv) hg hs hd _ (Steps.refl _)
theorem own_ldB (X : Stand p l e R s m args below meth c T locs cells slots) (hx : p.tables.exec = Jvm.exec) (hZ : Z.Warmed39 s.vm) (eT : T.heap = h) (F : Arv Z h a k .byte n vs dv) (h0 : ¬ j < 0) (h1 : j < n) {v : Int32} (hv : vs.getD j.toNatClampNeg dv = .int v) (hg : g.method = m) (hs : g.stack = .int j :: .ref a :: rest) (hd : decode c.code g.pc = .ok (.baload, 1)) :
    Steps p.tables e below (T.setTop g) (T.setTop { g with pc := g.pc + 1, stack := .int v :: rest }) := by
  obtain ⟨cl, A, q1, S, q3, H, G⟩ := F
  exact X.baloadBytes hx (j := j) (v := .int v) (by rw [eT]; exact A.1) (State.isArrayOf_alike hZ.alike A.2.1) A.2.2 (inb_of S ⟨h0, h1⟩) (H.at (inb_of S ⟨h0, h1⟩) hv) hg hs hd _ (Steps.refl _)
theorem own_len {ty : FieldType} (X : Stand p l e R s m args below meth c T locs cells slots) (hx : p.tables.exec = Jvm.exec) (hZ : Z.Warmed39 s.vm) (eT : T.heap = h) (F : Arv Z h a k ty n vs dv) (hg : g.method = m) (hs : g.stack = .ref a :: rest) (hd : decode c.code g.pc = .ok (.arraylength, 1)) :
    Steps p.tables e below (T.setTop g) (T.setTop { g with pc := g.pc + 1, stack := .int n :: rest }) := by
  obtain ⟨cl, A, q1, S, q3, H, G⟩ := F
  have r := X.arraylength hx (by rw [eT]; exact A.1) (State.isArrayOf_alike hZ.alike A.2.1) hg hs hd _ (Steps.refl _)
  rw [len_of S q3] at r
  exact r
theorem own_newPE (X : Stand p l e R s m args below meth c T locs cells slots) (hx : p.tables.exec = Jvm.exec) (hZ : Z.Warmed39 s.vm) {aty : ArrayType} (w : (Cond.arrayClass (newarray.typeOf aty)).before a0 Z = true) (eT : T.heap = h) (hg : g.method = m) (hd : decode c.code g.pc = .ok (.newarray aty, 2)) (hs : g.stack = .int n :: rest)
    (hn : ¬ n < 0) {cap : Nat} (hcap : n.toNatClampNeg ≤ cap) (hb : cap * 8 ≤ 536870912) (hc : cells + 1 ≤ R.cells) (hl : slots + cap ≤ R.slots) {ad : String} (had : "[" ++ (newarray.typeOf aty).toString = ad) :
    ∃ T' h' cA a, a = h.size ∧ Stand p l e R s m args below meth c T' locs (cells + 1) (slots + cap) ∧ T'.heap = h' ∧ Ext h h' ∧ Arv Z h' a cA (newarray.typeOf aty) n (List.replicate cap (defaultValue (newarray.typeOf aty))) (defaultValue (newarray.typeOf aty)) ∧ Exa Z h' a ad ∧
      Steps p.tables e below (T.setTop g) (T'.setTop { g with pc := g.pc + 2, stack := .ref a :: rest }) := by
  obtain ⟨T', h', cA, X', e', E, A, E2, st⟩ := newPE X hx hZ w eT hg hd hs hn hcap hb hc hl had
  exact ⟨T', h', cA, _, rfl, X', e', E, (Arv.new A hn).pad (pad_rep [] _ cap), E2, st _ (Steps.refl _)⟩
theorem own_clone {ty : FieldType} (X : Stand p l e R s m args below meth c T locs cells slots) (hx : p.tables.exec = Jvm.exec) (hZ : Z.Warmed39 s.vm) {own ad : String} {index : Nat} (hown : s.vm.findClass own = some m.cls)
    (w1 : (Cond.methodLink own index ⟨ad, "clone", "()Ljava/lang/Object;"⟩).before a0 Z = true) (w2 : (Cond.sameMethod ad "java/lang/Object" "clone" "()Ljava/lang/Object;").before a0 Z = true) (w3 : (Cond.native ⟨"java/lang/Object", "clone", "()Ljava/lang/Object;"⟩).before a0 Z = true)
    (w4 : (Cond.instanceMethod ⟨"java/lang/Object", "clone", "()Ljava/lang/Object;"⟩).before a0 Z = true) (w5 : (Cond.selects ad ⟨ad, "clone", "()Ljava/lang/Object;"⟩ ⟨"java/lang/Object", "clone", "()Ljava/lang/Object;"⟩).before a0 Z = true) (w6 : (Cond.castable ad "java/lang/Cloneable").before a0 Z = true)
    (eT : T.heap = h) (F : Arv Z h a k ty n vs dv) (E : Exa Z h a ad) (hg : g.method = m) (hsize : g.locals.size = c.maxLocals) (hst : g.stack = .ref a :: rest) (hd : decode c.code g.pc = .ok (.invokevirtual index, 3))
    (hf : 1 ≤ R.frames) {W cap : Nat} (hW : 2 * g.monitorRoom + (rest.map fun v => v.category).sum ≤ W) (hl : W + 14 ≤ R.locals) (hcap : n.toNatClampNeg ≤ cap) (hc : cells + 1 ≤ R.cells) (hsl : slots + cap ≤ R.slots) :
    ∃ T' h' b, b = h.size ∧ Stand p l e R s m args below meth c T' locs (cells + 1) (slots + cap) ∧ T'.heap = h' ∧ Ext h h' ∧ Arv Z h' b k ty n vs dv ∧ Exa Z h' b ad ∧ Steps p.tables e below (T.setTop g) (T'.setTop { g with pc := g.pc + 3, stack := .ref b :: rest }) := by
  obtain ⟨cl, A, q1, S, q3, H, G⟩ := F
  have FC : FitC Z cl := fitC_of A fun i hi v hv => by rw [H i hi] at hv; cases hv; exact G i hi
  obtain ⟨T', h', X', e', ex, A', E', st⟩ := cloneA X hx hZ hown w1 w2 w3 w4 w5 w6 eT A E FC hg hsize hst hd hf hW hl (by rw [S]; exact hcap) hc hsl
  exact ⟨T', h', _, rfl, X', e', ex, ⟨cloneOf cl, A', q1, S, q3, H, G⟩, E', st _ (Steps.refl _)⟩
theorem own_born {h : Heap} {a b : Addr} (q : a < h.size) (r : b = h.size) : a ≠ b := Nat.ne_of_lt (r ▸ q)
end OwnHeap
def own_back (eq : Nat → Bool) (F : Nat → Nat) : Nat → Nat → Nat
  | 0, k => k
  | f + 1, k => if k = 0 then k else if eq k then k else own_back eq F f (F (k - 1))
def own_nxt (eq : Nat → Bool) (F : Nat → Nat) (k : Nat) : Nat := if eq (own_back eq F 4 k) then own_back eq F 4 k + 1 else own_back eq F 4 k
def own_updN (F : Nat → Nat) (i x : Nat) : Nat → Nat := fun k => if k = i then x else F k
def own_Fs (E : Nat → Nat → Bool) : Nat → (Nat → Nat) × Nat
  | 0 => (fun _ => 0, 0)
  | i + 1 => (own_updN (own_Fs E i).1 (i + 1) (own_nxt (E (i + 1)) (own_Fs E i).1 (own_Fs E i).2), own_nxt (E (i + 1)) (own_Fs E i).1 (own_Fs E i).2)
def own_got (E : Nat → Nat → Bool) (eo : Nat → Bool) (n m : Nat) : Nat := own_nxt eo (own_Fs E (n - 1)).1 (if m = n then (own_Fs E (n - 1)).1 (n - 1) else m)
def own_at (E : Nat → Nat → Bool) (eo : Nat → Bool) (m i j : Nat) : Bool := if i < m then E i j else eo j
def own_ends (E : Nat → Nat → Bool) (eo : Nat → Bool) (m : Nat) : Nat → Bool
  | 1 => own_at E eo m m 0
  | 2 => decide (2 ≤ m + 1) && own_at E eo m (m - 1) 0 && own_at E eo m m 1
  | 3 => decide (3 ≤ m + 1) && own_at E eo m (m - 2) 0 && own_at E eo m (m - 1) 1 && own_at E eo m m 2
  | 4 => decide (4 ≤ m + 1) && own_at E eo m (m - 3) 0 && own_at E eo m (m - 2) 1 && own_at E eo m (m - 1) 2 && own_at E eo m m 3
  | _ => false
def own_want (E : Nat → Nat → Bool) (eo : Nat → Bool) (n m : Nat) : Nat :=
  if decide (4 ≤ n) && own_ends E eo m 4 then 4 else if decide (3 ≤ n) && own_ends E eo m 3 then 3 else if decide (2 ≤ n) && own_ends E eo m 2 then 2 else if own_ends E eo m 1 then 1 else 0
def own_E (a b c d e f : Bool) (i j : Nat) : Bool :=
  match i, j with
  | 0, 1 | 1, 0 => a
  | 0, 2 | 2, 0 => b
  | 0, 3 | 3, 0 => c
  | 1, 2 | 2, 1 => d
  | 1, 3 | 3, 1 => e
  | 2, 3 | 3, 2 => f
  | _, _ => decide (i = j)
def own_eo (o p q r : Bool) (j : Nat) : Bool :=
  match j with
  | 0 => o
  | 1 => p
  | 2 => q
  | _ => r
def own_tr (x y z : Bool) : Bool := (!(x && y) || z) && (!(x && z) || y) && (!(y && z) || x)
def own_eqv (a b c d e f o p q r : Bool) : Bool :=
  own_tr a b d && own_tr a c e && own_tr b c f && own_tr d e f && own_tr o p a && own_tr o q b && own_tr o r c && own_tr p q d && own_tr p r e && own_tr q r f
def own_chk (a b c d e f o p q r : Bool) : Bool :=
  !(own_eqv a b c d e f o p q r) || ([(1, 0), (1, 1), (2, 0), (2, 1), (2, 2), (3, 0), (3, 1), (3, 2), (3, 3), (4, 0), (4, 1), (4, 2), (4, 3), (4, 4)].all fun nm => own_got (own_E a b c d e f) (own_eo o p q r) nm.1 nm.2 == own_want (own_E a b c d e f) (own_eo o p q r) nm.1 nm.2)
theorem own_chk_all : ∀ a b c d e f o p q r : Bool, own_chk a b c d e f o p q r = true := by decide +kernel
def own_vN (g : Nat → Int32) (n : Nat) : List Value := (List.range n).map fun i => .int (g i)
def own_upd (g : Nat → Int32) (i : Nat) (x : Int32) : Nat → Int32 := fun k => if k = i then x else g k
theorem own_ix {i : Nat} (h : i < 8) : (Int32.ofNat i).toNatClampNeg = i := by
  have e : (Int32.ofNat i).toInt = i := Int32.toInt_ofNat_of_lt (by omega)
  show (Int32.ofNat i).toInt.toNat = i
  omega
theorem own_i0 {i : Nat} (h : i < 8) : ¬ Int32.ofNat i < (0 : Int32) := by
  have e : (Int32.ofNat i).toInt = i := Int32.toInt_ofNat_of_lt (by omega)
  have z : (0 : Int32).toInt = 0 := by decide
  rw [Int32.lt_iff_toInt_lt, e, z]; omega
theorem own_ltN {i j : Nat} (hi : i < 8) (hj : j < 8) : Int32.ofNat i < Int32.ofNat j ↔ i < j := by
  have e1 : (Int32.ofNat i).toInt = i := Int32.toInt_ofNat_of_lt (by omega)
  have e2 : (Int32.ofNat j).toInt = j := Int32.toInt_ofNat_of_lt (by omega)
  rw [Int32.lt_iff_toInt_lt, e1, e2]; omega
theorem own_eqN {i j : Nat} (hi : i < 8) (hj : j < 8) : Int32.ofNat i = Int32.ofNat j ↔ i = j := by
  have e1 : (Int32.ofNat i).toInt = i := Int32.toInt_ofNat_of_lt (by omega)
  have e2 : (Int32.ofNat j).toInt = j := Int32.toInt_ofNat_of_lt (by omega)
  rw [← Int32.toInt_inj, e1, e2]; omega
theorem own_getN (g : Nat → Int32) {i n : Nat} (h : i < n) (h8 : n < 8) {dv : Value} : (own_vN g n).getD (Int32.ofNat i).toNatClampNeg dv = .int (g i) := by
  rw [own_ix (by omega), own_vN, List.getD_eq_getElem?_getD, List.getElem?_map, List.getElem?_range h]
  rfl
theorem own_setN (g : Nat → Int32) {i n : Nat} (x : Int32) : (own_vN g n).set i (.int x) = own_vN (own_upd g i x) n := by
  apply List.ext_getElem?
  intro k
  simp only [own_vN, List.getElem?_set, List.getElem?_map, List.length_map, List.length_range]
  by_cases hk : k < n
  · rw [List.getElem?_range hk]
    by_cases hi : i = k
    · subst hi; simp [own_upd, hk]
    · have : ¬ k = i := fun q => hi q.symm
      simp [own_upd, hi, this]
  · have e : (List.range n)[k]? = none := by simp; omega
    rw [e]
    by_cases hi : i = k
    · subst hi; simp [hk]
    · simp [hi]
theorem own_lenN (g : Nat → Int32) {i n : Nat} (h : i < n) : i < (own_vN g n).length := by simpa [own_vN] using h
theorem own_add (i j : Nat) : Int32.ofNat i + Int32.ofNat j = Int32.ofNat (i + j) := (Int32.ofNat_add i j).symm
theorem own_n1 (i : Nat) : Int32.ofNat i + (1 : Int32) = Int32.ofNat (i + 1) := (Int32.ofNat_add i 1).symm
theorem own_sub {i j : Nat} (h : j ≤ i) : Int32.ofNat i - Int32.ofNat j = Int32.ofNat (i - j) := by
  have e : Int32.ofNat i = Int32.ofNat (i - j) + Int32.ofNat j := by rw [own_add, Nat.sub_add_cancel h]
  rw [e, Int32.add_sub_cancel]
theorem own_nz {i : Nat} (h : 0 < i) (h8 : i < 8) : ¬ Int32.ofNat i = (0 : Int32) := fun q => by
  have := (own_eqN (i := i) (j := 0) h8 (by omega)).mp q
  omega
def own_x (pt : Int32) : Nat → Int32
  | 0 => pt
  | 1 => (pt.toUInt32 >>> ((8 : Int32) &&& 31).toUInt32).toInt32
  | 2 => (pt.toUInt32 >>> ((16 : Int32) &&& 31).toUInt32).toInt32
  | _ => (pt.toUInt32 >>> ((24 : Int32) &&& 31).toUInt32).toInt32
def own_P (pt : Int32) (i : Nat) : Int32 := own_x pt i &&& (255 : Int32)
def own_B (pt : Int32) (i : Nat) : Int32 := ((own_x pt i).toInt8.toInt32).toInt8.toInt32
theorem own_sx (x : Int32) : x.toInt8.toInt32.toBitVec = (x.toBitVec.setWidth 8).signExtend 32 := by
  show (x.toBitVec.signExtend 8).signExtend 32 = _
  rw [BitVec.signExtend_eq_setWidth_of_le (w := 32) (v := 8) x.toBitVec (by decide)]
theorem own_se (X : BitVec 32) : (X.setWidth 8).signExtend 32 &&& BitVec.ofNat 32 255 = X &&& BitVec.ofNat 32 255 := by
  apply BitVec.eq_of_getLsbD_eq
  intro i hi
  have e : (BitVec.ofNat 32 255).getLsbD i = decide (i < 8) := by
    have : ∀ j : Fin 32, (BitVec.ofNat 32 255).getLsbD j.val = decide (j.val < 8) := by decide
    exact this ⟨i, hi⟩
  rw [BitVec.getLsbD_and, BitVec.getLsbD_and, e]
  by_cases h8 : i < 8
  · simp [BitVec.getElem_signExtend, h8, hi]
  · simp [h8]
theorem own_se2 (X : BitVec 32) : ((X.setWidth 8).signExtend 32).setWidth 8 = X.setWidth 8 := by
  apply BitVec.eq_of_getLsbD_eq
  intro i hi
  have h32 : i < 32 := by omega
  simp [BitVec.getElem_signExtend, hi, h32]
theorem own_bb (x : Int32) : (x.toInt8.toInt32).toInt8.toInt32 = x.toInt8.toInt32 := by
  apply Int32.toBitVec_inj.mp
  rw [own_sx, own_sx, own_se2]
theorem own_b255 (pt : Int32) (i : Nat) : own_B pt i &&& (255 : Int32) = own_P pt i := by
  unfold own_B own_P
  rw [own_bb]
  apply Int32.toBitVec_inj.mp
  show (own_x pt i).toInt8.toInt32.toBitVec &&& BitVec.ofNat 32 255 = (own_x pt i).toBitVec &&& BitVec.ofNat 32 255
  rw [own_sx, own_se]
theorem own_bp (pt : Int32) (i j : Nat) : own_B pt i = own_B pt j ↔ own_P pt i = own_P pt j := by
  constructor
  · intro h; rw [← own_b255, ← own_b255, h]
  · intro h
    have h' : (own_x pt i).toBitVec &&& BitVec.ofNat 32 255 = (own_x pt j).toBitVec &&& BitVec.ofNat 32 255 := congrArg Int32.toBitVec h
    have e : (own_x pt i).toBitVec.setWidth 8 = (own_x pt j).toBitVec.setWidth 8 := by
      apply BitVec.eq_of_getLsbD_eq
      intro k hk
      have g := congrArg (fun z : BitVec 32 => z.getLsbD k) h'
      have e : (BitVec.ofNat 32 255).getLsbD k = true := by
        have : ∀ j : Fin 8, (BitVec.ofNat 32 255).getLsbD j.val = true := by decide
        exact this ⟨k, hk⟩
      simpa [e, hk] using g
    unfold own_B
    rw [own_bb, own_bb]
    apply Int32.toBitVec_inj.mp
    rw [own_sx, own_sx, e]
theorem own_small (x m : Int32) (k : Nat) (hk : k < 32) (hm : m.toBitVec.toNat = 2 ^ k - 1) : ∃ j : Nat, j < 2 ^ k ∧ x &&& m = Int32.ofNat j := by
  have e := Jvm.Kit.i32_mask x m hk hm
  have hp : (0 : Int) < 2 ^ k := Int.pow_pos (by decide)
  have l := Int.emod_lt_of_pos x.toInt hp
  have g := Int.emod_nonneg x.toInt (Int.ne_of_gt hp)
  refine ⟨(x.toInt % 2 ^ k).toNat, ?_, ?_⟩
  · have : ((2 ^ k : Nat) : Int) = 2 ^ k := by simp
    omega
  · apply Int32.toInt_inj.mp
    have h31 : (2 : Nat) ^ k ≤ 2 ^ 31 := Nat.pow_le_pow_right (by decide) (by omega)
    have : ((2 ^ k : Nat) : Int) = 2 ^ k := by simp
    rw [e, Int32.toInt_ofNat_of_lt (by omega)]
    omega
theorem own_split (x y : Int32) (m : Nat) (hm : 0 < m) (hm2 : m < 8) (hx : 0 ≤ x.toInt) (e : y = Int32.ofNat m) : ∃ n : Nat, n < m ∧ x % y = Int32.ofNat n := by
  have ey : y.toInt = m := by rw [e]; exact Int32.toInt_ofNat_of_lt (by omega)
  have er := Jvm.Kit.i32_rem_nonneg (y := y) hx
  have h1 := Int.emod_lt_of_pos x.toInt (show (0 : Int) < y.toInt by omega)
  have h2 := Int.emod_nonneg x.toInt (show y.toInt ≠ 0 by omega)
  refine ⟨(x.toInt % y.toInt).toNat, by omega, ?_⟩
  apply Int32.toInt_inj.mp
  rw [er, Int32.toInt_ofNat_of_lt (by omega)]
  omega
theorem own_m31 (x : Int32) : 0 ≤ (x &&& (2147483647 : Int32)).toInt := by
  rw [Jvm.Kit.i32_mask x 2147483647 (k := 31) (by decide) (by decide)]; omega
def own_cell (P : Nat → Int32) (i m : Nat) (oc : Int32) : Int32 := if i < m then P i else if i = m then oc else (-1 : Int32)
def own_end (S P : Nat → Int32) (m : Nat) : Nat → Bool
  | 1 => decide (S (m + 1 - 1) = P 0)
  | 2 => decide (2 ≤ m + 1) && decide (S (m + 1 - 2) = P 0) && decide (S (m + 1 - 2 + 1) = P 1)
  | 3 => decide (3 ≤ m + 1) && decide (S (m + 1 - 3) = P 0) && decide (S (m + 1 - 3 + 1) = P 1) && decide (S (m + 1 - 3 + 2) = P 2)
  | 4 => decide (4 ≤ m + 1) && decide (S (m + 1 - 4) = P 0) && decide (S (m + 1 - 4 + 1) = P 1) && decide (S (m + 1 - 4 + 2) = P 2) && decide (S (m + 1 - 4 + 3) = P 3)
  | _ => false
def own_w (n : Nat) (en : Nat → Bool) : Nat → Nat
  | 0 => 0
  | k + 1 => if decide (k + 1 ≤ n) && en (k + 1) then k + 1 else own_w n en k
def own_S (P : Nat → Int32) (m : Nat) (oc : Int32) : Nat → Int32 := fun j => own_cell P j m oc
def own_Eq (P : Nat → Int32) (i j : Nat) : Bool := decide (P i = P j)
def own_eq (P : Nat → Int32) (oc : Int32) (j : Nat) : Bool := decide (P j = oc)
theorem own_tr_ok (x y z : Int32) : own_tr (decide (x = y)) (decide (x = z)) (decide (y = z)) = true := by
  by_cases h1 : x = y <;> by_cases h2 : x = z <;> by_cases h3 : y = z <;> simp_all [own_tr]
theorem own_tr_sym (x y z : Bool) : own_tr x y z = own_tr x z y ∧ own_tr x y z = own_tr y x z := by
  cases x <;> cases y <;> cases z <;> exact ⟨rfl, rfl⟩
theorem own_back_congr {eq eq' : Nat → Bool} {F F' : Nat → Nat} (n : Nat) (hF : ∀ j, j < n → F j = F' j) (hl : ∀ j, F j ≤ j) (h : ∀ j, j < n → eq j = eq' j) : ∀ f k, k < n → own_back eq F f k = own_back eq' F' f k ∧ own_back eq F f k < n := by
  intro f
  induction f with
  | zero => intro k hk; exact ⟨rfl, hk⟩
  | succ f ih =>
    intro k hk
    unfold own_back
    by_cases h0 : k = 0
    · subst h0; simpa using hk
    · by_cases he : eq k = true
      · rw [← h k hk]; simp only [h0, he, if_false, if_true]; exact ⟨trivial, hk⟩
      · have hk1 : k - 1 < n := by omega
        have := hl (k - 1)
        rw [← h k hk]
        simp only [h0, he, if_false]
        rw [← hF (k - 1) hk1]
        exact ih (F (k - 1)) (by omega)
theorem own_back_le {eq : Nat → Bool} {F : Nat → Nat} (hl : ∀ j, F j ≤ j) : ∀ f k, own_back eq F f k ≤ k := by
  intro f
  induction f with
  | zero => intro k; exact Nat.le_refl _
  | succ f ih =>
    intro k
    unfold own_back
    by_cases h0 : k = 0
    · simp [h0]
    · by_cases he : eq k = true
      · simp [h0, he]
      · simp only [h0, he, if_false]
        have h1 := ih (F (k - 1))
        have h2 := hl (k - 1)
        simp only [Bool.false_eq_true, if_false]
        omega
theorem own_nxt_le {eq : Nat → Bool} {F : Nat → Nat} (hl : ∀ j, F j ≤ j) (k : Nat) : own_nxt eq F k ≤ k + 1 := by
  have := own_back_le (eq := eq) hl 4 k
  unfold own_nxt
  split <;> omega
theorem own_Fs_le (E : Nat → Nat → Bool) : ∀ i, (∀ j, (own_Fs E i).1 j ≤ j) ∧ (own_Fs E i).2 ≤ i := by
  intro i
  induction i with
  | zero => exact ⟨fun j => Nat.zero_le _, Nat.le_refl _⟩
  | succ i ih =>
    have hk := own_nxt_le (eq := E (i + 1)) ih.1 (own_Fs E i).2
    refine ⟨fun j => ?_, ?_⟩
    · show own_updN _ _ _ j ≤ j
      unfold own_updN
      by_cases hj : j = i + 1
      · rw [if_pos hj]; omega
      · rw [if_neg hj]; exact ih.1 j
    · show own_nxt _ _ _ ≤ i + 1
      omega
theorem own_nxt_congr {eq eq' : Nat → Bool} {F F' : Nat → Nat} (n : Nat) (hF : ∀ j, j < n → F j = F' j) (hl : ∀ j, F j ≤ j) (h : ∀ j, j < n → eq j = eq' j) {k : Nat} (hk : k < n) : own_nxt eq F k = own_nxt eq' F' k := by
  obtain ⟨e1, e2⟩ := own_back_congr n hF hl h 4 k hk
  unfold own_nxt
  rw [← e1, ← h _ e2]
theorem own_Fs_eq {E E' : Nat → Nat → Bool} (h : ∀ i j, i < 4 → j < 4 → E i j = E' i j) : ∀ i, i < 4 → (∀ j, (own_Fs E i).1 j = (own_Fs E' i).1 j) ∧ (own_Fs E i).2 = (own_Fs E' i).2 := by
  intro i
  induction i with
  | zero => intro _; exact ⟨fun _ => rfl, rfl⟩
  | succ i ih =>
    intro hi
    obtain ⟨h1, h2⟩ := ih (by omega)
    have hl := own_Fs_le E i
    have e : own_nxt (E (i + 1)) (own_Fs E i).1 (own_Fs E i).2 = own_nxt (E' (i + 1)) (own_Fs E' i).1 (own_Fs E' i).2 := by
      rw [← h2]
      exact own_nxt_congr (i + 1) (fun j _ => h1 j) hl.1 (fun j hj => h _ _ hi (by omega)) (by have := hl.2; omega)
    refine ⟨fun j => ?_, e⟩
    show own_updN _ _ _ j = own_updN _ _ _ j
    unfold own_updN
    rw [e, h1 j]
theorem own_got_eq {E E' : Nat → Nat → Bool} {eo eo' : Nat → Bool} (h : ∀ i j, i < 4 → j < 4 → E i j = E' i j) (ho : ∀ j, j < 4 → eo j = eo' j) {n m : Nat} (hn : 1 ≤ n) (hn4 : n ≤ 4) (hm : m ≤ n) : own_got E eo n m = own_got E' eo' n m := by
  obtain ⟨h1, h2⟩ := own_Fs_eq h (n - 1) (by omega)
  have hl := own_Fs_le E (n - 1)
  unfold own_got
  rw [← h1 (n - 1)]
  refine own_nxt_congr n (fun j _ => h1 j) hl.1 (fun j hj => ho j (by omega)) ?_
  have := hl.1 (n - 1)
  split <;> omega
theorem own_at_eq {E E' : Nat → Nat → Bool} {eo eo' : Nat → Bool} (h : ∀ i j, i < 4 → j < 4 → E i j = E' i j) (ho : ∀ j, j < 4 → eo j = eo' j) {m i j : Nat} (hm : m ≤ 4) (hj : j < 4) : own_at E eo m i j = own_at E' eo' m i j := by
  unfold own_at
  by_cases hi : i < m
  · rw [if_pos hi, if_pos hi]; exact h i j (by omega) hj
  · rw [if_neg hi, if_neg hi]; exact ho j hj
theorem own_want_eq {E E' : Nat → Nat → Bool} {eo eo' : Nat → Bool} (h : ∀ i j, i < 4 → j < 4 → E i j = E' i j) (ho : ∀ j, j < 4 → eo j = eo' j) {n m : Nat} (hm : m ≤ 4) : own_want E eo n m = own_want E' eo' n m := by
  have a0 : ∀ i, own_at E eo m i 0 = own_at E' eo' m i 0 := fun i => own_at_eq h ho hm (by decide)
  have a1 : ∀ i, own_at E eo m i 1 = own_at E' eo' m i 1 := fun i => own_at_eq h ho hm (by decide)
  have a2 : ∀ i, own_at E eo m i 2 = own_at E' eo' m i 2 := fun i => own_at_eq h ho hm (by decide)
  have a3 : ∀ i, own_at E eo m i 3 = own_at E' eo' m i 3 := fun i => own_at_eq h ho hm (by decide)
  simp only [own_want, own_ends, a0, a1, a2, a3]
theorem own_Eq_E (P : Nat → Int32) : ∀ i j, i < 4 → j < 4 → own_Eq P i j = own_E (decide (P 0 = P 1)) (decide (P 0 = P 2)) (decide (P 0 = P 3)) (decide (P 1 = P 2)) (decide (P 1 = P 3)) (decide (P 2 = P 3)) i j := by
  intro i j hi hj
  have ci : i = 0 ∨ i = 1 ∨ i = 2 ∨ i = 3 := by omega
  have cj : j = 0 ∨ j = 1 ∨ j = 2 ∨ j = 3 := by omega
  rcases ci with rfl | rfl | rfl | rfl <;> rcases cj with rfl | rfl | rfl | rfl <;> simp [own_Eq, own_E, eq_comm]
theorem own_eq_o (P : Nat → Int32) (oc : Int32) : ∀ j, j < 4 → own_eq P oc j = own_eo (decide (P 0 = oc)) (decide (P 1 = oc)) (decide (P 2 = oc)) (decide (P 3 = oc)) j := by
  intro j hj
  have cj : j = 0 ∨ j = 1 ∨ j = 2 ∨ j = 3 := by omega
  rcases cj with rfl | rfl | rfl | rfl <;> rfl
theorem own_tr_oc (x y o : Int32) : own_tr (decide (x = o)) (decide (y = o)) (decide (x = y)) = true := by
  by_cases h1 : x = o <;> by_cases h2 : y = o <;> by_cases h3 : x = y <;> simp_all [own_tr]
theorem own_kmp (P : Nat → Int32) (oc : Int32) (n m : Nat) (hn : 1 ≤ n) (hn4 : n ≤ 4) (hm : m ≤ n) : own_got (own_Eq P) (own_eq P oc) n m = own_want (own_Eq P) (own_eq P oc) n m := by
  rw [own_got_eq (own_Eq_E P) (own_eq_o P oc) hn hn4 hm, own_want_eq (own_Eq_E P) (own_eq_o P oc) (by omega)]
  have k := own_chk_all (decide (P 0 = P 1)) (decide (P 0 = P 2)) (decide (P 0 = P 3)) (decide (P 1 = P 2)) (decide (P 1 = P 3)) (decide (P 2 = P 3)) (decide (P 0 = oc)) (decide (P 1 = oc)) (decide (P 2 = oc)) (decide (P 3 = oc))
  unfold own_chk at k
  have v : own_eqv (decide (P 0 = P 1)) (decide (P 0 = P 2)) (decide (P 0 = P 3)) (decide (P 1 = P 2)) (decide (P 1 = P 3)) (decide (P 2 = P 3)) (decide (P 0 = oc)) (decide (P 1 = oc)) (decide (P 2 = oc)) (decide (P 3 = oc)) = true := by
    unfold own_eqv
    simp only [own_tr_ok, own_tr_oc, Bool.and_self]
  rw [v] at k
  simp only [Bool.not_true, Bool.false_or, List.all_eq_true] at k
  have hmem : (n, m) ∈ [(1, 0), (1, 1), (2, 0), (2, 1), (2, 2), (3, 0), (3, 1), (3, 2), (3, 3), (4, 0), (4, 1), (4, 2), (4, 3), (4, 4)] := by
    have cn : n = 1 ∨ n = 2 ∨ n = 3 ∨ n = 4 := by omega
    rcases cn with rfl | rfl | rfl | rfl
    · have : m = 0 ∨ m = 1 := by omega
      rcases this with rfl | rfl <;> decide
    · have : m = 0 ∨ m = 1 ∨ m = 2 := by omega
      rcases this with rfl | rfl | rfl <;> decide
    · have : m = 0 ∨ m = 1 ∨ m = 2 ∨ m = 3 := by omega
      rcases this with rfl | rfl | rfl | rfl <;> decide
    · have : m = 0 ∨ m = 1 ∨ m = 2 ∨ m = 3 ∨ m = 4 := by omega
      rcases this with rfl | rfl | rfl | rfl | rfl <;> decide
  exact eq_of_beq (k _ hmem)
theorem own_at_S (P : Nat → Int32) (oc : Int32) (m i j : Nat) (hi : i ≤ m) : decide (own_S P m oc i = P j) = own_at (own_Eq P) (own_eq P oc) m i j := by
  unfold own_S own_cell own_at
  by_cases h : i < m
  · rw [if_pos h, if_pos h]; rfl
  · have e : i = m := by omega
    rw [if_neg h, if_neg h, if_pos e]
    unfold own_eq
    simp [eq_comm]
theorem own_ends_S (P : Nat → Int32) (oc : Int32) (m k : Nat) : own_end (own_S P m oc) P m k = own_ends (own_Eq P) (own_eq P oc) m k := by
  match k with
  | 0 => rfl
  | 1 => exact own_at_S P oc m m 0 (Nat.le_refl _)
  | 2 =>
    show (decide (2 ≤ m + 1) && decide (own_S P m oc (m + 1 - 2) = P 0) && decide (own_S P m oc (m + 1 - 2 + 1) = P 1)) = (decide (2 ≤ m + 1) && own_at (own_Eq P) (own_eq P oc) m (m - 1) 0 && own_at (own_Eq P) (own_eq P oc) m (m) 1)
    by_cases h : 2 ≤ m + 1
    · rw [own_at_S P oc m _ _ (by omega), own_at_S P oc m _ _ (by omega), show m + 1 - 2 = m - 1 by omega, show m - 1 + 1 = m by omega]
    · simp [h]
  | 3 =>
    show (decide (3 ≤ m + 1) && decide (own_S P m oc (m + 1 - 3) = P 0) && decide (own_S P m oc (m + 1 - 3 + 1) = P 1) && decide (own_S P m oc (m + 1 - 3 + 2) = P 2)) = (decide (3 ≤ m + 1) && own_at (own_Eq P) (own_eq P oc) m (m - 2) 0 && own_at (own_Eq P) (own_eq P oc) m (m - 1) 1 && own_at (own_Eq P) (own_eq P oc) m (m) 2)
    by_cases h : 3 ≤ m + 1
    · rw [own_at_S P oc m _ _ (by omega), own_at_S P oc m _ _ (by omega), own_at_S P oc m _ _ (by omega), show m + 1 - 3 = m - 2 by omega, show m - 2 + 1 = m - 1 by omega, show m - 2 + 2 = m by omega]
    · simp [h]
  | 4 =>
    show (decide (4 ≤ m + 1) && decide (own_S P m oc (m + 1 - 4) = P 0) && decide (own_S P m oc (m + 1 - 4 + 1) = P 1) && decide (own_S P m oc (m + 1 - 4 + 2) = P 2) && decide (own_S P m oc (m + 1 - 4 + 3) = P 3)) = (decide (4 ≤ m + 1) && own_at (own_Eq P) (own_eq P oc) m (m - 3) 0 && own_at (own_Eq P) (own_eq P oc) m (m - 2) 1 && own_at (own_Eq P) (own_eq P oc) m (m - 1) 2 && own_at (own_Eq P) (own_eq P oc) m (m) 3)
    by_cases h : 4 ≤ m + 1
    · rw [own_at_S P oc m _ _ (by omega), own_at_S P oc m _ _ (by omega), own_at_S P oc m _ _ (by omega), own_at_S P oc m _ _ (by omega), show m + 1 - 4 = m - 3 by omega, show m - 3 + 1 = m - 2 by omega, show m - 3 + 2 = m - 1 by omega, show m - 3 + 3 = m by omega]
    · simp [h]
  | k + 5 => rfl
theorem own_w_want (P : Nat → Int32) (oc : Int32) (n m : Nat) (hn : 1 ≤ n) : own_w n (own_end (own_S P m oc) P m) 4 = own_want (own_Eq P) (own_eq P oc) n m := by
  simp [own_w, own_want, own_ends_S, hn]
theorem own_law (P : Nat → Int32) (oc : Int32) (n m : Nat) (hn : 1 ≤ n) (hn4 : n ≤ 4) (hm : m ≤ n) : own_got (own_Eq P) (own_eq P oc) n m = own_w n (own_end (own_S P m oc) P m) 4 := by
  rw [own_w_want P oc n m hn, own_kmp P oc n m hn hn4 hm]
theorem own_cell_0 : decode method_3_code 0 = .ok (.iload_n 1, 1) := by decide +kernel
theorem own_cell_1 : decode method_3_code 1 = .ok (.iload_n 2, 1) := by decide +kernel
theorem own_cell_2 : decode method_3_code 2 = .ok (.if_icmp .ge 7, 3) := by decide +kernel
theorem own_cell_5 : decode method_3_code 5 = .ok (.aload_n 0, 1) := by decide +kernel
theorem own_cell_6 : decode method_3_code 6 = .ok (.iload_n 1, 1) := by decide +kernel
theorem own_cell_7 : decode method_3_code 7 = .ok (.iaload, 1) := by decide +kernel
theorem own_cell_8 : decode method_3_code 8 = .ok (.ireturn, 1) := by decide +kernel
theorem own_cell_9 : decode method_3_code 9 = .ok (.iload_n 1, 1) := by decide +kernel
theorem own_cell_10 : decode method_3_code 10 = .ok (.iload_n 2, 1) := by decide +kernel
theorem own_cell_11 : decode method_3_code 11 = .ok (.if_icmp .ne 5, 3) := by decide +kernel
theorem own_cell_14 : decode method_3_code 14 = .ok (.iload_n 3, 1) := by decide +kernel
theorem own_cell_15 : decode method_3_code 15 = .ok (.ireturn, 1) := by decide +kernel
theorem own_cell_16 : decode method_3_code 16 = .ok (.iconst (-1), 1) := by decide +kernel
theorem own_cell_17 : decode method_3_code 17 = .ok (.ireturn, 1) := by decide +kernel
theorem own_f1 : plainName "com/example/crossweave/crossweave/soap/OctetPatternNextPinLaw" = true := by first | (simp [plainName, overriddenIn]; done) | decide +kernel
theorem own_f2 (m : MethodId) (x0 : Addr) (x1 : Int32) (x2 : Int32) (x3 : Int32) : entryFrame m #[(.ref x0), (.int x1), (.int x2), (.int x3)] 4 = mkF m 0 #[.val (.ref x0), .val (.int x1), .val (.int x2), .val (.int x3)] [] := by first | (simp [entryFrame, mkF, argsToLocals, Value.category]; done) | rfl
set_option maxRecDepth 65536 in
set_option maxHeartbeats 40000000 in
theorem rm_cell (l : Launch) (Z : State) (a0 : Array Value) (hw : ∀ d ∈ tables_1, d.before a0 Z = true) (ap : Addr) (kp : ClassId) (P : Nat → Int32) (i mN : Nat) (oc : Int32) (h0 : Heap) (n0 : Nat) (Z0 : n0 ≤ h0.size) (hi : i ≤ 4) (hm : mN ≤ 4) (Vp : Arv Z h0 ap kp .int (4 : Int32) (own_vN P 4) (.int (0 : Int32))) :
    own_Met l Z (⟨"com/example/crossweave/crossweave/soap/OctetPatternNextPinLaw", "cell", "([IIII)I"⟩ : MethodName) method_3_code 4 (some .int) ({ frames := 0, cells := 0, slots := 0, locals := 0 } : Room) #[(.ref ap), (.int (Int32.ofNat i)), (.int (Int32.ofNat mN)), (.int oc)] h0 (fun v h L => v = some (.int (own_cell P i mN oc)) ∧ L = [] ∧ h = h0) := by
  refine MetFree.of_bodySF (plainFor_of_name own_f1) hisR ?_
  intro p e s m args below meth c s₁ Bd hml0 hP hK
  obtain ⟨rfl, hZ, hh⟩ := hP
  have hx := Bd.exec
  have hby := Bd.bytes
  have hlk : meth.locks = false := Bd.notSynchronized
  have hml : c.maxLocals = 4 := hml0
  have hown : s.vm.findClass "com/example/crossweave/crossweave/soap/OctetPatternNextPinLaw" = some m.cls := findClass_of_methodNamed Bd.named
  have hnm := (name_of_methodNamed Bd.named Bd.method).1
  have X0 : Stand p l e ({ frames := 0, cells := 0, slots := 0, locals := 0 } : Room) s m #[(.ref ap), (.int (Int32.ofNat i)), (.int (Int32.ofNat mN)), (.int oc)] below meth c s₁ [] 0 0 := Stand.of_body Bd
  have e0 : s₁.heap = h0 := by rw [← hh, Bd.state]; rfl
  show own_Go p e below (own_G s (fun v h L => v = some (.int (own_cell P i mN oc)) ∧ L = [] ∧ h = h0) 0 0) (s₁.setTop (entryFrame m #[(.ref ap), (.int (Int32.ofNat i)), (.int (Int32.ofNat mN)), (.int oc)] 4))
  rw [own_f2]
  show own_Go p e below _ (s₁.setTop (mkF m 0 #[.val (.ref ap), .val (.int (Int32.ofNat i)), .val (.int (Int32.ofNat mN)), .val (.int oc)] []))
  refine own_go (XS.iloadN X0.here hx rfl (hb hby own_cell_0) rfl (Steps.refl _)) ?_
  show own_Go p e below _ (s₁.setTop (mkF m 1 #[.val (.ref ap), .val (.int (Int32.ofNat i)), .val (.int (Int32.ofNat mN)), .val (.int oc)] [(.int (Int32.ofNat i))]))
  refine own_go (XS.iloadN X0.here hx rfl (hb hby own_cell_1) rfl (Steps.refl _)) ?_
  show own_Go p e below _ (s₁.setTop (mkF m 2 #[.val (.ref ap), .val (.int (Int32.ofNat i)), .val (.int (Int32.ofNat mN)), .val (.int oc)] [(.int (Int32.ofNat mN)), (.int (Int32.ofNat i))]))
  by_cases hc : (Int32.ofNat i) < (Int32.ofNat mN)
  · have hl : i < mN := (own_ltN (by omega) (by omega)).mp hc
    show own_Go p e below _ (s₁.setTop (mkF m 2 #[.val (.ref ap), .val (.int (Int32.ofNat i)), .val (.int (Int32.ofNat mN)), .val (.int oc)] [(.int (Int32.ofNat mN)), (.int (Int32.ofNat i))]))
    refine own_go (XS.icmpNo X0.here hx rfl (hb hby own_cell_2) rfl (tlt hc).2.1 (Steps.refl _)) ?_
    show own_Go p e below _ (s₁.setTop (mkF m 5 #[.val (.ref ap), .val (.int (Int32.ofNat i)), .val (.int (Int32.ofNat mN)), .val (.int oc)] []))
    refine own_go (XS.aloadN X0.here hx rfl (hb hby own_cell_5) rfl rfl (Steps.refl _)) ?_
    show own_Go p e below _ (s₁.setTop (mkF m 6 #[.val (.ref ap), .val (.int (Int32.ofNat i)), .val (.int (Int32.ofNat mN)), .val (.int oc)] [(.ref ap)]))
    refine own_go (XS.iloadN X0.here hx rfl (hb hby own_cell_6) rfl (Steps.refl _)) ?_
    show own_Go p e below _ (s₁.setTop (mkF m 7 #[.val (.ref ap), .val (.int (Int32.ofNat i)), .val (.int (Int32.ofNat mN)), .val (.int oc)] [(.int (Int32.ofNat i)), (.ref ap)]))
    refine own_go (own_ldI X0 hx hZ e0 Vp (own_i0 (by omega)) ((own_ltN (j := 4) (by omega) (by omega)).mpr (by omega)) (v := (P i)) (own_getN P (n := 4) (by omega) (by omega)) (g := (mkF m 7 #[.val (.ref ap), .val (.int (Int32.ofNat i)), .val (.int (Int32.ofNat mN)), .val (.int oc)] [(.int (Int32.ofNat i)), (.ref ap)])) rfl rfl (hb hby own_cell_7)) ?_
    show own_Go p e below _ (s₁.setTop (mkF m 8 #[.val (.ref ap), .val (.int (Int32.ofNat i)), .val (.int (Int32.ofNat mN)), .val (.int oc)] [(.int (P i))]))
    exact own_retI X0 hx hlk e0 Bd.returns (hb hby own_cell_8) ⟨congrArg (fun u => some (Value.int u)) (if_pos hl).symm, rfl, rfl⟩ (by decide) (by decide)
  · have hl : ¬ i < mN := fun q => hc ((own_ltN (by omega) (by omega)).mpr q)
    show own_Go p e below _ (s₁.setTop (mkF m 2 #[.val (.ref ap), .val (.int (Int32.ofNat i)), .val (.int (Int32.ofNat mN)), .val (.int oc)] [(.int (Int32.ofNat mN)), (.int (Int32.ofNat i))]))
    refine own_go (XS.icmpYes X0.here hx rfl (pc0 := 2) (pc' := 9) rfl (hb hby own_cell_2) rfl (flt hc).2.1 (by decide) (by decide) (Steps.refl _)) ?_
    show own_Go p e below _ (s₁.setTop (mkF m 9 #[.val (.ref ap), .val (.int (Int32.ofNat i)), .val (.int (Int32.ofNat mN)), .val (.int oc)] []))
    refine own_go (XS.iloadN X0.here hx rfl (hb hby own_cell_9) rfl (Steps.refl _)) ?_
    show own_Go p e below _ (s₁.setTop (mkF m 10 #[.val (.ref ap), .val (.int (Int32.ofNat i)), .val (.int (Int32.ofNat mN)), .val (.int oc)] [(.int (Int32.ofNat i))]))
    refine own_go (XS.iloadN X0.here hx rfl (hb hby own_cell_10) rfl (Steps.refl _)) ?_
    show own_Go p e below _ (s₁.setTop (mkF m 11 #[.val (.ref ap), .val (.int (Int32.ofNat i)), .val (.int (Int32.ofNat mN)), .val (.int oc)] [(.int (Int32.ofNat mN)), (.int (Int32.ofNat i))]))
    by_cases hd : (Int32.ofNat i) = (Int32.ofNat mN)
    · refine own_go (XS.icmpNo X0.here hx rfl (hb hby own_cell_11) rfl (teq hd).2 (Steps.refl _)) ?_
      show own_Go p e below _ (s₁.setTop (mkF m 14 #[.val (.ref ap), .val (.int (Int32.ofNat i)), .val (.int (Int32.ofNat mN)), .val (.int oc)] []))
      refine own_go (XS.iloadN X0.here hx rfl (hb hby own_cell_14) rfl (Steps.refl _)) ?_
      show own_Go p e below _ (s₁.setTop (mkF m 15 #[.val (.ref ap), .val (.int (Int32.ofNat i)), .val (.int (Int32.ofNat mN)), .val (.int oc)] [(.int oc)]))
      exact own_retI X0 hx hlk e0 Bd.returns (hb hby own_cell_15) ⟨congrArg (fun u => some (Value.int u)) ((if_neg hl).trans (if_pos ((own_eqN (by omega) (by omega)).mp hd))).symm, rfl, rfl⟩ (by decide) (by decide)
    · refine own_go (XS.icmpYes X0.here hx rfl (pc0 := 11) (pc' := 16) rfl (hb hby own_cell_11) rfl (feq hd).2 (by decide) (by decide) (Steps.refl _)) ?_
      show own_Go p e below _ (s₁.setTop (mkF m 16 #[.val (.ref ap), .val (.int (Int32.ofNat i)), .val (.int (Int32.ofNat mN)), .val (.int oc)] []))
      refine own_go (XS.iconst X0.here hx rfl (hb hby own_cell_16) (Steps.refl _)) ?_
      show own_Go p e below _ (s₁.setTop (mkF m 17 #[.val (.ref ap), .val (.int (Int32.ofNat i)), .val (.int (Int32.ofNat mN)), .val (.int oc)] [(.int (-1 : Int32))]))
      exact own_retI X0 hx hlk e0 Bd.returns (hb hby own_cell_17) ⟨congrArg (fun u => some (Value.int u)) ((if_neg hl).trans (if_neg fun u => hd ((own_eqN (by omega) (by omega)).mpr u))).symm, rfl, rfl⟩ (by decide) (by decide)
theorem own_ends_0 : decode method_4_code 0 = .ok (.iload_n 3, 1) := by decide +kernel
theorem own_ends_1 : decode method_4_code 1 = .ok (.iload_n 1, 1) := by decide +kernel
theorem own_ends_2 : decode method_4_code 2 = .ok (.if_icmp .le 5, 3) := by decide +kernel
theorem own_ends_5 : decode method_4_code 5 = .ok (.iconst 0, 1) := by decide +kernel
theorem own_ends_6 : decode method_4_code 6 = .ok (.ireturn, 1) := by decide +kernel
theorem own_ends_7 : decode method_4_code 7 = .ok (.iload_n 1, 1) := by decide +kernel
theorem own_ends_8 : decode method_4_code 8 = .ok (.iload_n 3, 1) := by decide +kernel
theorem own_ends_9 : decode method_4_code 9 = .ok (.isub, 1) := by decide +kernel
theorem own_ends_10 : decode method_4_code 10 = .ok (.istore 4, 2) := by decide +kernel
theorem own_ends_12 : decode method_4_code 12 = .ok (.iload_n 3, 1) := by decide +kernel
theorem own_ends_13 : decode method_4_code 13 = .ok (.ifCond .le 15, 3) := by decide +kernel
theorem own_ends_16 : decode method_4_code 16 = .ok (.aload_n 0, 1) := by decide +kernel
theorem own_ends_17 : decode method_4_code 17 = .ok (.iload 4, 2) := by decide +kernel
theorem own_ends_19 : decode method_4_code 19 = .ok (.iaload, 1) := by decide +kernel
theorem own_ends_20 : decode method_4_code 20 = .ok (.aload_n 2, 1) := by decide +kernel
theorem own_ends_21 : decode method_4_code 21 = .ok (.iconst 0, 1) := by decide +kernel
theorem own_ends_22 : decode method_4_code 22 = .ok (.iaload, 1) := by decide +kernel
theorem own_ends_23 : decode method_4_code 23 = .ok (.if_icmp .eq 5, 3) := by decide +kernel
theorem own_ends_26 : decode method_4_code 26 = .ok (.iconst 0, 1) := by decide +kernel
theorem own_ends_27 : decode method_4_code 27 = .ok (.ireturn, 1) := by decide +kernel
theorem own_ends_28 : decode method_4_code 28 = .ok (.iload_n 3, 1) := by decide +kernel
theorem own_ends_29 : decode method_4_code 29 = .ok (.iconst 1, 1) := by decide +kernel
theorem own_ends_30 : decode method_4_code 30 = .ok (.if_icmp .le 17, 3) := by decide +kernel
theorem own_ends_33 : decode method_4_code 33 = .ok (.aload_n 0, 1) := by decide +kernel
theorem own_ends_34 : decode method_4_code 34 = .ok (.iload 4, 2) := by decide +kernel
theorem own_ends_36 : decode method_4_code 36 = .ok (.iconst 1, 1) := by decide +kernel
theorem own_ends_37 : decode method_4_code 37 = .ok (.iadd, 1) := by decide +kernel
theorem own_ends_38 : decode method_4_code 38 = .ok (.iaload, 1) := by decide +kernel
theorem own_ends_39 : decode method_4_code 39 = .ok (.aload_n 2, 1) := by decide +kernel
theorem own_ends_40 : decode method_4_code 40 = .ok (.iconst 1, 1) := by decide +kernel
theorem own_ends_41 : decode method_4_code 41 = .ok (.iaload, 1) := by decide +kernel
theorem own_ends_42 : decode method_4_code 42 = .ok (.if_icmp .eq 5, 3) := by decide +kernel
theorem own_ends_45 : decode method_4_code 45 = .ok (.iconst 0, 1) := by decide +kernel
theorem own_ends_46 : decode method_4_code 46 = .ok (.ireturn, 1) := by decide +kernel
theorem own_ends_47 : decode method_4_code 47 = .ok (.iload_n 3, 1) := by decide +kernel
theorem own_ends_48 : decode method_4_code 48 = .ok (.iconst 2, 1) := by decide +kernel
theorem own_ends_49 : decode method_4_code 49 = .ok (.if_icmp .le 17, 3) := by decide +kernel
theorem own_ends_52 : decode method_4_code 52 = .ok (.aload_n 0, 1) := by decide +kernel
theorem own_ends_53 : decode method_4_code 53 = .ok (.iload 4, 2) := by decide +kernel
theorem own_ends_55 : decode method_4_code 55 = .ok (.iconst 2, 1) := by decide +kernel
theorem own_ends_56 : decode method_4_code 56 = .ok (.iadd, 1) := by decide +kernel
theorem own_ends_57 : decode method_4_code 57 = .ok (.iaload, 1) := by decide +kernel
theorem own_ends_58 : decode method_4_code 58 = .ok (.aload_n 2, 1) := by decide +kernel
theorem own_ends_59 : decode method_4_code 59 = .ok (.iconst 2, 1) := by decide +kernel
theorem own_ends_60 : decode method_4_code 60 = .ok (.iaload, 1) := by decide +kernel
theorem own_ends_61 : decode method_4_code 61 = .ok (.if_icmp .eq 5, 3) := by decide +kernel
theorem own_ends_64 : decode method_4_code 64 = .ok (.iconst 0, 1) := by decide +kernel
theorem own_ends_65 : decode method_4_code 65 = .ok (.ireturn, 1) := by decide +kernel
theorem own_ends_66 : decode method_4_code 66 = .ok (.iload_n 3, 1) := by decide +kernel
theorem own_ends_67 : decode method_4_code 67 = .ok (.iconst 3, 1) := by decide +kernel
theorem own_ends_68 : decode method_4_code 68 = .ok (.if_icmp .le 17, 3) := by decide +kernel
theorem own_ends_71 : decode method_4_code 71 = .ok (.aload_n 0, 1) := by decide +kernel
theorem own_ends_72 : decode method_4_code 72 = .ok (.iload 4, 2) := by decide +kernel
theorem own_ends_74 : decode method_4_code 74 = .ok (.iconst 3, 1) := by decide +kernel
theorem own_ends_75 : decode method_4_code 75 = .ok (.iadd, 1) := by decide +kernel
theorem own_ends_76 : decode method_4_code 76 = .ok (.iaload, 1) := by decide +kernel
theorem own_ends_77 : decode method_4_code 77 = .ok (.aload_n 2, 1) := by decide +kernel
theorem own_ends_78 : decode method_4_code 78 = .ok (.iconst 3, 1) := by decide +kernel
theorem own_ends_79 : decode method_4_code 79 = .ok (.iaload, 1) := by decide +kernel
theorem own_ends_80 : decode method_4_code 80 = .ok (.if_icmp .eq 5, 3) := by decide +kernel
theorem own_ends_83 : decode method_4_code 83 = .ok (.iconst 0, 1) := by decide +kernel
theorem own_ends_84 : decode method_4_code 84 = .ok (.ireturn, 1) := by decide +kernel
theorem own_ends_85 : decode method_4_code 85 = .ok (.iconst 1, 1) := by decide +kernel
theorem own_ends_86 : decode method_4_code 86 = .ok (.ireturn, 1) := by decide +kernel
theorem own_f4 (m : MethodId) (x0 : Addr) (x1 : Int32) (x2 : Addr) (x3 : Int32) : entryFrame m #[(.ref x0), (.int x1), (.ref x2), (.int x3)] 5 = mkF m 0 #[.val (.ref x0), .val (.int x1), .val (.ref x2), .val (.int x3), .unset] [] := by first | (simp [entryFrame, mkF, argsToLocals, Value.category]; done) | rfl
set_option maxRecDepth 65536 in
set_option maxHeartbeats 40000000 in
theorem rm_ends1 (l : Launch) (Z : State) (a0 : Array Value) (hw : ∀ d ∈ tables_1, d.before a0 Z = true) (sa ap : Addr) (ks kp : ClassId) (S P : Nat → Int32) (mN : Nat) (h0 : Heap) (n0 : Nat) (Z0 : n0 ≤ h0.size) (hm : mN ≤ 4) (Vs : Arv Z h0 sa ks .int (5 : Int32) (own_vN S 5) (.int (0 : Int32))) (Vp : Arv Z h0 ap kp .int (4 : Int32) (own_vN P 4) (.int (0 : Int32))) :
    own_Met l Z (⟨"com/example/crossweave/crossweave/soap/OctetPatternNextPinLaw", "ends", "([II[II)Z"⟩ : MethodName) method_4_code 5 (some .boolean) ({ frames := 0, cells := 0, slots := 0, locals := 0 } : Room) #[(.ref sa), (.int (Int32.ofNat (mN + 1))), (.ref ap), (.int (1 : Int32))] h0 (fun v h L => v = some (.int (own_b (own_end S P mN 1 = true))) ∧ L = [] ∧ h = h0) := by
  refine MetFree.of_bodySF (plainFor_of_name own_f1) hisR ?_
  intro p e s m args below meth c s₁ Bd hml0 hP hK
  obtain ⟨rfl, hZ, hh⟩ := hP
  have hx := Bd.exec
  have hby := Bd.bytes
  have hlk : meth.locks = false := Bd.notSynchronized
  have hml : c.maxLocals = 5 := hml0
  have hown : s.vm.findClass "com/example/crossweave/crossweave/soap/OctetPatternNextPinLaw" = some m.cls := findClass_of_methodNamed Bd.named
  have hnm := (name_of_methodNamed Bd.named Bd.method).1
  have X0 : Stand p l e ({ frames := 0, cells := 0, slots := 0, locals := 0 } : Room) s m #[(.ref sa), (.int (Int32.ofNat (mN + 1))), (.ref ap), (.int (1 : Int32))] below meth c s₁ [] 0 0 := Stand.of_body Bd
  have e0 : s₁.heap = h0 := by rw [← hh, Bd.state]; rfl
  show own_Go p e below (own_G s (fun v h L => v = some (.int (own_b (own_end S P mN 1 = true))) ∧ L = [] ∧ h = h0) 0 0) (s₁.setTop (entryFrame m #[(.ref sa), (.int (Int32.ofNat (mN + 1))), (.ref ap), (.int (1 : Int32))] 5))
  rw [own_f4]
  show own_Go p e below _ (s₁.setTop (mkF m 0 #[.val (.ref sa), .val (.int (Int32.ofNat (mN + 1))), .val (.ref ap), .val (.int (1 : Int32)), .unset] []))
  refine own_go (XS.iloadN X0.here hx rfl (hb hby own_ends_0) rfl (Steps.refl _)) ?_
  show own_Go p e below _ (s₁.setTop (mkF m 1 #[.val (.ref sa), .val (.int (Int32.ofNat (mN + 1))), .val (.ref ap), .val (.int (1 : Int32)), .unset] [(.int (1 : Int32))]))
  refine own_go (XS.iloadN X0.here hx rfl (hb hby own_ends_1) rfl (Steps.refl _)) ?_
  show own_Go p e below _ (s₁.setTop (mkF m 2 #[.val (.ref sa), .val (.int (Int32.ofNat (mN + 1))), .val (.ref ap), .val (.int (1 : Int32)), .unset] [(.int (Int32.ofNat (mN + 1))), (.int (1 : Int32))]))
  by_cases hc2 : (Int32.ofNat (mN + 1)) < (1 : Int32)
  · have hk := (own_ltN (i := mN + 1) (j := 1) (by omega) (by omega)).mp hc2
    exact absurd hk (by omega)
  · have hk : 1 ≤ mN + 1 := by have q : ¬ mN + 1 < 1 := fun u => hc2 ((own_ltN (i := mN + 1) (j := 1) (by omega) (by omega)).mpr u); omega
    refine own_go (XS.icmpYes X0.here hx rfl (pc0 := 2) (pc' := 7) rfl (hb hby own_ends_2) rfl (flt hc2).2.2.2 (by decide) (by decide) (Steps.refl _)) ?_
    show own_Go p e below _ (s₁.setTop (mkF m 7 #[.val (.ref sa), .val (.int (Int32.ofNat (mN + 1))), .val (.ref ap), .val (.int (1 : Int32)), .unset] []))
    refine own_go (XS.iloadN X0.here hx rfl (hb hby own_ends_7) rfl (Steps.refl _)) ?_
    show own_Go p e below _ (s₁.setTop (mkF m 8 #[.val (.ref sa), .val (.int (Int32.ofNat (mN + 1))), .val (.ref ap), .val (.int (1 : Int32)), .unset] [(.int (Int32.ofNat (mN + 1)))]))
    refine own_go (XS.iloadN X0.here hx rfl (hb hby own_ends_8) rfl (Steps.refl _)) ?_
    show own_Go p e below _ (s₁.setTop (mkF m 9 #[.val (.ref sa), .val (.int (Int32.ofNat (mN + 1))), .val (.ref ap), .val (.int (1 : Int32)), .unset] [(.int (1 : Int32)), (.int (Int32.ofNat (mN + 1)))]))
    refine own_go (XS.isub X0.here hx rfl (hb hby own_ends_9) rfl (Steps.refl _)) ?_
    show own_Go p e below _ (s₁.setTop (mkF m 10 #[.val (.ref sa), .val (.int (Int32.ofNat (mN + 1))), .val (.ref ap), .val (.int (1 : Int32)), .unset] [(.int ((Int32.ofNat (mN + 1)) - (1 : Int32)))]))
    rw [show Int32.ofNat (mN + 1) - (1 : Int32) = Int32.ofNat (mN + 1 - 1) from own_sub (j := 1) hk]
    show own_Go p e below _ (s₁.setTop (mkF m 10 #[.val (.ref sa), .val (.int (Int32.ofNat (mN + 1))), .val (.ref ap), .val (.int (1 : Int32)), .unset] [(.int (Int32.ofNat (mN + 1 - 1)))]))
    refine own_go (XS.istore X0.here hx rfl (hb hby own_ends_10) rfl (l' := #[.val (.ref sa), .val (.int (Int32.ofNat (mN + 1))), .val (.ref ap), .val (.int (1 : Int32)), .val (.int (Int32.ofNat (mN + 1 - 1)))]) rfl (Steps.refl _)) ?_
    show own_Go p e below _ (s₁.setTop (mkF m 12 #[.val (.ref sa), .val (.int (Int32.ofNat (mN + 1))), .val (.ref ap), .val (.int (1 : Int32)), .val (.int (Int32.ofNat (mN + 1 - 1)))] []))
    refine own_go (XS.iloadN X0.here hx rfl (hb hby own_ends_12) rfl (Steps.refl _)) ?_
    show own_Go p e below _ (s₁.setTop (mkF m 13 #[.val (.ref sa), .val (.int (Int32.ofNat (mN + 1))), .val (.ref ap), .val (.int (1 : Int32)), .val (.int (Int32.ofNat (mN + 1 - 1)))] [(.int (1 : Int32))]))
    refine own_go (XS.ifNo X0.here hx rfl (hb hby own_ends_13) rfl ((if0 _ _).trans (tlt (by decide : ((0 : Int32) < (1 : Int32)))).2.2.2) (Steps.refl _)) ?_
    show own_Go p e below _ (s₁.setTop (mkF m 16 #[.val (.ref sa), .val (.int (Int32.ofNat (mN + 1))), .val (.ref ap), .val (.int (1 : Int32)), .val (.int (Int32.ofNat (mN + 1 - 1)))] []))
    refine own_go (XS.aloadN X0.here hx rfl (hb hby own_ends_16) rfl rfl (Steps.refl _)) ?_
    show own_Go p e below _ (s₁.setTop (mkF m 17 #[.val (.ref sa), .val (.int (Int32.ofNat (mN + 1))), .val (.ref ap), .val (.int (1 : Int32)), .val (.int (Int32.ofNat (mN + 1 - 1)))] [(.ref sa)]))
    refine own_go (XS.iload X0.here hx rfl (hb hby own_ends_17) rfl (Steps.refl _)) ?_
    show own_Go p e below _ (s₁.setTop (mkF m 19 #[.val (.ref sa), .val (.int (Int32.ofNat (mN + 1))), .val (.ref ap), .val (.int (1 : Int32)), .val (.int (Int32.ofNat (mN + 1 - 1)))] [(.int (Int32.ofNat (mN + 1 - 1))), (.ref sa)]))
    refine own_go (own_ldI X0 hx hZ e0 Vs (own_i0 (by omega)) ((own_ltN (j := 5) (by omega) (by omega)).mpr (by omega)) (v := (S (mN + 1 - 1))) (own_getN S (n := 5) (by omega) (by omega)) (g := (mkF m 19 #[.val (.ref sa), .val (.int (Int32.ofNat (mN + 1))), .val (.ref ap), .val (.int (1 : Int32)), .val (.int (Int32.ofNat (mN + 1 - 1)))] [(.int (Int32.ofNat (mN + 1 - 1))), (.ref sa)])) rfl rfl (hb hby own_ends_19)) ?_
    show own_Go p e below _ (s₁.setTop (mkF m 20 #[.val (.ref sa), .val (.int (Int32.ofNat (mN + 1))), .val (.ref ap), .val (.int (1 : Int32)), .val (.int (Int32.ofNat (mN + 1 - 1)))] [(.int (S (mN + 1 - 1)))]))
    refine own_go (XS.aloadN X0.here hx rfl (hb hby own_ends_20) rfl rfl (Steps.refl _)) ?_
    show own_Go p e below _ (s₁.setTop (mkF m 21 #[.val (.ref sa), .val (.int (Int32.ofNat (mN + 1))), .val (.ref ap), .val (.int (1 : Int32)), .val (.int (Int32.ofNat (mN + 1 - 1)))] [(.ref ap), (.int (S (mN + 1 - 1)))]))
    refine own_go (XS.iconst X0.here hx rfl (hb hby own_ends_21) (Steps.refl _)) ?_
    show own_Go p e below _ (s₁.setTop (mkF m 22 #[.val (.ref sa), .val (.int (Int32.ofNat (mN + 1))), .val (.ref ap), .val (.int (1 : Int32)), .val (.int (Int32.ofNat (mN + 1 - 1)))] [(.int (0 : Int32)), (.ref ap), (.int (S (mN + 1 - 1)))]))
    refine own_go (own_ldI X0 hx hZ e0 Vp (by decide) (by decide) (v := (P 0)) rfl (g := (mkF m 22 #[.val (.ref sa), .val (.int (Int32.ofNat (mN + 1))), .val (.ref ap), .val (.int (1 : Int32)), .val (.int (Int32.ofNat (mN + 1 - 1)))] [(.int (0 : Int32)), (.ref ap), (.int (S (mN + 1 - 1)))])) rfl rfl (hb hby own_ends_22)) ?_
    show own_Go p e below _ (s₁.setTop (mkF m 23 #[.val (.ref sa), .val (.int (Int32.ofNat (mN + 1))), .val (.ref ap), .val (.int (1 : Int32)), .val (.int (Int32.ofNat (mN + 1 - 1)))] [(.int (P 0)), (.int (S (mN + 1 - 1)))]))
    by_cases hd0 : (S (mN + 1 - 1)) = (P 0)
    rotate_left
    · refine own_go (XS.icmpNo X0.here hx rfl (hb hby own_ends_23) rfl (feq hd0).1 (Steps.refl _)) ?_
      show own_Go p e below _ (s₁.setTop (mkF m 26 #[.val (.ref sa), .val (.int (Int32.ofNat (mN + 1))), .val (.ref ap), .val (.int (1 : Int32)), .val (.int (Int32.ofNat (mN + 1 - 1)))] []))
      refine own_go (XS.iconst X0.here hx rfl (hb hby own_ends_26) (Steps.refl _)) ?_
      show own_Go p e below _ (s₁.setTop (mkF m 27 #[.val (.ref sa), .val (.int (Int32.ofNat (mN + 1))), .val (.ref ap), .val (.int (1 : Int32)), .val (.int (Int32.ofNat (mN + 1 - 1)))] [(.int (0 : Int32))]))
      exact own_retZ X0 hx hlk e0 Bd.returns (hb hby own_ends_27) (Or.inl rfl) ⟨congrArg (fun u => some (Value.int u)) (own_b_f (by simp only [own_end, hk, hd0, decide_true, decide_false, Bool.and_true, Bool.true_and, Bool.and_false, Bool.false_and, Bool.and_self, Bool.false_eq_true, not_false_eq_true])).symm, rfl, rfl⟩ (by decide) (by decide)
    refine own_go (XS.icmpYes X0.here hx rfl (pc0 := 23) (pc' := 28) rfl (hb hby own_ends_23) rfl (teq hd0).1 (by decide) (by decide) (Steps.refl _)) ?_
    show own_Go p e below _ (s₁.setTop (mkF m 28 #[.val (.ref sa), .val (.int (Int32.ofNat (mN + 1))), .val (.ref ap), .val (.int (1 : Int32)), .val (.int (Int32.ofNat (mN + 1 - 1)))] []))
    refine own_go (XS.iloadN X0.here hx rfl (hb hby own_ends_28) rfl (Steps.refl _)) ?_
    show own_Go p e below _ (s₁.setTop (mkF m 29 #[.val (.ref sa), .val (.int (Int32.ofNat (mN + 1))), .val (.ref ap), .val (.int (1 : Int32)), .val (.int (Int32.ofNat (mN + 1 - 1)))] [(.int (1 : Int32))]))
    refine own_go (XS.iconst X0.here hx rfl (hb hby own_ends_29) (Steps.refl _)) ?_
    show own_Go p e below _ (s₁.setTop (mkF m 30 #[.val (.ref sa), .val (.int (Int32.ofNat (mN + 1))), .val (.ref ap), .val (.int (1 : Int32)), .val (.int (Int32.ofNat (mN + 1 - 1)))] [(.int (1 : Int32)), (.int (1 : Int32))]))
    refine own_go (XS.icmpYes X0.here hx rfl (pc0 := 30) (pc' := 47) rfl (hb hby own_ends_30) rfl (flt (by decide : ¬ ((1 : Int32) < (1 : Int32)))).2.2.2 (by decide) (by decide) (Steps.refl _)) ?_
    show own_Go p e below _ (s₁.setTop (mkF m 47 #[.val (.ref sa), .val (.int (Int32.ofNat (mN + 1))), .val (.ref ap), .val (.int (1 : Int32)), .val (.int (Int32.ofNat (mN + 1 - 1)))] []))
    refine own_go (XS.iloadN X0.here hx rfl (hb hby own_ends_47) rfl (Steps.refl _)) ?_
    show own_Go p e below _ (s₁.setTop (mkF m 48 #[.val (.ref sa), .val (.int (Int32.ofNat (mN + 1))), .val (.ref ap), .val (.int (1 : Int32)), .val (.int (Int32.ofNat (mN + 1 - 1)))] [(.int (1 : Int32))]))
    refine own_go (XS.iconst X0.here hx rfl (hb hby own_ends_48) (Steps.refl _)) ?_
    show own_Go p e below _ (s₁.setTop (mkF m 49 #[.val (.ref sa), .val (.int (Int32.ofNat (mN + 1))), .val (.ref ap), .val (.int (1 : Int32)), .val (.int (Int32.ofNat (mN + 1 - 1)))] [(.int (2 : Int32)), (.int (1 : Int32))]))
    refine own_go (XS.icmpYes X0.here hx rfl (pc0 := 49) (pc' := 66) rfl (hb hby own_ends_49) rfl (flt (by decide : ¬ ((2 : Int32) < (1 : Int32)))).2.2.2 (by decide) (by decide) (Steps.refl _)) ?_
    show own_Go p e below _ (s₁.setTop (mkF m 66 #[.val (.ref sa), .val (.int (Int32.ofNat (mN + 1))), .val (.ref ap), .val (.int (1 : Int32)), .val (.int (Int32.ofNat (mN + 1 - 1)))] []))
    refine own_go (XS.iloadN X0.here hx rfl (hb hby own_ends_66) rfl (Steps.refl _)) ?_
    show own_Go p e below _ (s₁.setTop (mkF m 67 #[.val (.ref sa), .val (.int (Int32.ofNat (mN + 1))), .val (.ref ap), .val (.int (1 : Int32)), .val (.int (Int32.ofNat (mN + 1 - 1)))] [(.int (1 : Int32))]))
    refine own_go (XS.iconst X0.here hx rfl (hb hby own_ends_67) (Steps.refl _)) ?_
    show own_Go p e below _ (s₁.setTop (mkF m 68 #[.val (.ref sa), .val (.int (Int32.ofNat (mN + 1))), .val (.ref ap), .val (.int (1 : Int32)), .val (.int (Int32.ofNat (mN + 1 - 1)))] [(.int (3 : Int32)), (.int (1 : Int32))]))
    refine own_go (XS.icmpYes X0.here hx rfl (pc0 := 68) (pc' := 85) rfl (hb hby own_ends_68) rfl (flt (by decide : ¬ ((3 : Int32) < (1 : Int32)))).2.2.2 (by decide) (by decide) (Steps.refl _)) ?_
    show own_Go p e below _ (s₁.setTop (mkF m 85 #[.val (.ref sa), .val (.int (Int32.ofNat (mN + 1))), .val (.ref ap), .val (.int (1 : Int32)), .val (.int (Int32.ofNat (mN + 1 - 1)))] []))
    refine own_go (XS.iconst X0.here hx rfl (hb hby own_ends_85) (Steps.refl _)) ?_
    show own_Go p e below _ (s₁.setTop (mkF m 86 #[.val (.ref sa), .val (.int (Int32.ofNat (mN + 1))), .val (.ref ap), .val (.int (1 : Int32)), .val (.int (Int32.ofNat (mN + 1 - 1)))] [(.int (1 : Int32))]))
    exact own_retZ X0 hx hlk e0 Bd.returns (hb hby own_ends_86) (Or.inr rfl) ⟨congrArg (fun u => some (Value.int u)) (own_b_t (by simp only [own_end, hk, hd0, decide_true, decide_false, Bool.and_true, Bool.true_and, Bool.and_false, Bool.false_and, Bool.and_self, Bool.false_eq_true, not_false_eq_true])).symm, rfl, rfl⟩ (by decide) (by decide)
set_option maxRecDepth 65536 in
set_option maxHeartbeats 40000000 in
theorem rm_ends2 (l : Launch) (Z : State) (a0 : Array Value) (hw : ∀ d ∈ tables_1, d.before a0 Z = true) (sa ap : Addr) (ks kp : ClassId) (S P : Nat → Int32) (mN : Nat) (h0 : Heap) (n0 : Nat) (Z0 : n0 ≤ h0.size) (hm : mN ≤ 4) (Vs : Arv Z h0 sa ks .int (5 : Int32) (own_vN S 5) (.int (0 : Int32))) (Vp : Arv Z h0 ap kp .int (4 : Int32) (own_vN P 4) (.int (0 : Int32))) :
    own_Met l Z (⟨"com/example/crossweave/crossweave/soap/OctetPatternNextPinLaw", "ends", "([II[II)Z"⟩ : MethodName) method_4_code 5 (some .boolean) ({ frames := 0, cells := 0, slots := 0, locals := 0 } : Room) #[(.ref sa), (.int (Int32.ofNat (mN + 1))), (.ref ap), (.int (2 : Int32))] h0 (fun v h L => v = some (.int (own_b (own_end S P mN 2 = true))) ∧ L = [] ∧ h = h0) := by
  refine MetFree.of_bodySF (plainFor_of_name own_f1) hisR ?_
  intro p e s m args below meth c s₁ Bd hml0 hP hK
  obtain ⟨rfl, hZ, hh⟩ := hP
  have hx := Bd.exec
  have hby := Bd.bytes
  have hlk : meth.locks = false := Bd.notSynchronized
  have hml : c.maxLocals = 5 := hml0
  have hown : s.vm.findClass "com/example/crossweave/crossweave/soap/OctetPatternNextPinLaw" = some m.cls := findClass_of_methodNamed Bd.named
  have hnm := (name_of_methodNamed Bd.named Bd.method).1
  have X0 : Stand p l e ({ frames := 0, cells := 0, slots := 0, locals := 0 } : Room) s m #[(.ref sa), (.int (Int32.ofNat (mN + 1))), (.ref ap), (.int (2 : Int32))] below meth c s₁ [] 0 0 := Stand.of_body Bd
  have e0 : s₁.heap = h0 := by rw [← hh, Bd.state]; rfl
  show own_Go p e below (own_G s (fun v h L => v = some (.int (own_b (own_end S P mN 2 = true))) ∧ L = [] ∧ h = h0) 0 0) (s₁.setTop (entryFrame m #[(.ref sa), (.int (Int32.ofNat (mN + 1))), (.ref ap), (.int (2 : Int32))] 5))
  rw [own_f4]
  show own_Go p e below _ (s₁.setTop (mkF m 0 #[.val (.ref sa), .val (.int (Int32.ofNat (mN + 1))), .val (.ref ap), .val (.int (2 : Int32)), .unset] []))
  refine own_go (XS.iloadN X0.here hx rfl (hb hby own_ends_0) rfl (Steps.refl _)) ?_
  show own_Go p e below _ (s₁.setTop (mkF m 1 #[.val (.ref sa), .val (.int (Int32.ofNat (mN + 1))), .val (.ref ap), .val (.int (2 : Int32)), .unset] [(.int (2 : Int32))]))
  refine own_go (XS.iloadN X0.here hx rfl (hb hby own_ends_1) rfl (Steps.refl _)) ?_
  show own_Go p e below _ (s₁.setTop (mkF m 2 #[.val (.ref sa), .val (.int (Int32.ofNat (mN + 1))), .val (.ref ap), .val (.int (2 : Int32)), .unset] [(.int (Int32.ofNat (mN + 1))), (.int (2 : Int32))]))
  by_cases hc2 : (Int32.ofNat (mN + 1)) < (2 : Int32)
  · have hk := (own_ltN (i := mN + 1) (j := 2) (by omega) (by omega)).mp hc2
    have hk : ¬ 2 ≤ mN + 1 := by omega
    refine own_go (XS.icmpNo X0.here hx rfl (hb hby own_ends_2) rfl (tlt hc2).2.2.2 (Steps.refl _)) ?_
    show own_Go p e below _ (s₁.setTop (mkF m 5 #[.val (.ref sa), .val (.int (Int32.ofNat (mN + 1))), .val (.ref ap), .val (.int (2 : Int32)), .unset] []))
    refine own_go (XS.iconst X0.here hx rfl (hb hby own_ends_5) (Steps.refl _)) ?_
    show own_Go p e below _ (s₁.setTop (mkF m 6 #[.val (.ref sa), .val (.int (Int32.ofNat (mN + 1))), .val (.ref ap), .val (.int (2 : Int32)), .unset] [(.int (0 : Int32))]))
    exact own_retZ X0 hx hlk e0 Bd.returns (hb hby own_ends_6) (Or.inl rfl) ⟨congrArg (fun u => some (Value.int u)) (own_b_f (by simp only [own_end, hk, decide_false, Bool.false_and, Bool.false_eq_true, not_false_eq_true])).symm, rfl, rfl⟩ (by decide) (by decide)
  · have hk : 2 ≤ mN + 1 := by have q : ¬ mN + 1 < 2 := fun u => hc2 ((own_ltN (i := mN + 1) (j := 2) (by omega) (by omega)).mpr u); omega
    refine own_go (XS.icmpYes X0.here hx rfl (pc0 := 2) (pc' := 7) rfl (hb hby own_ends_2) rfl (flt hc2).2.2.2 (by decide) (by decide) (Steps.refl _)) ?_
    show own_Go p e below _ (s₁.setTop (mkF m 7 #[.val (.ref sa), .val (.int (Int32.ofNat (mN + 1))), .val (.ref ap), .val (.int (2 : Int32)), .unset] []))
    refine own_go (XS.iloadN X0.here hx rfl (hb hby own_ends_7) rfl (Steps.refl _)) ?_
    show own_Go p e below _ (s₁.setTop (mkF m 8 #[.val (.ref sa), .val (.int (Int32.ofNat (mN + 1))), .val (.ref ap), .val (.int (2 : Int32)), .unset] [(.int (Int32.ofNat (mN + 1)))]))
    refine own_go (XS.iloadN X0.here hx rfl (hb hby own_ends_8) rfl (Steps.refl _)) ?_
    show own_Go p e below _ (s₁.setTop (mkF m 9 #[.val (.ref sa), .val (.int (Int32.ofNat (mN + 1))), .val (.ref ap), .val (.int (2 : Int32)), .unset] [(.int (2 : Int32)), (.int (Int32.ofNat (mN + 1)))]))
    refine own_go (XS.isub X0.here hx rfl (hb hby own_ends_9) rfl (Steps.refl _)) ?_
    show own_Go p e below _ (s₁.setTop (mkF m 10 #[.val (.ref sa), .val (.int (Int32.ofNat (mN + 1))), .val (.ref ap), .val (.int (2 : Int32)), .unset] [(.int ((Int32.ofNat (mN + 1)) - (2 : Int32)))]))
    rw [show Int32.ofNat (mN + 1) - (2 : Int32) = Int32.ofNat (mN + 1 - 2) from own_sub (j := 2) hk]
    show own_Go p e below _ (s₁.setTop (mkF m 10 #[.val (.ref sa), .val (.int (Int32.ofNat (mN + 1))), .val (.ref ap), .val (.int (2 : Int32)), .unset] [(.int (Int32.ofNat (mN + 1 - 2)))]))
    refine own_go (XS.istore X0.here hx rfl (hb hby own_ends_10) rfl (l' := #[.val (.ref sa), .val (.int (Int32.ofNat (mN + 1))), .val (.ref ap), .val (.int (2 : Int32)), .val (.int (Int32.ofNat (mN + 1 - 2)))]) rfl (Steps.refl _)) ?_
    show own_Go p e below _ (s₁.setTop (mkF m 12 #[.val (.ref sa), .val (.int (Int32.ofNat (mN + 1))), .val (.ref ap), .val (.int (2 : Int32)), .val (.int (Int32.ofNat (mN + 1 - 2)))] []))
    refine own_go (XS.iloadN X0.here hx rfl (hb hby own_ends_12) rfl (Steps.refl _)) ?_
    show own_Go p e below _ (s₁.setTop (mkF m 13 #[.val (.ref sa), .val (.int (Int32.ofNat (mN + 1))), .val (.ref ap), .val (.int (2 : Int32)), .val (.int (Int32.ofNat (mN + 1 - 2)))] [(.int (2 : Int32))]))
    refine own_go (XS.ifNo X0.here hx rfl (hb hby own_ends_13) rfl ((if0 _ _).trans (tlt (by decide : ((0 : Int32) < (2 : Int32)))).2.2.2) (Steps.refl _)) ?_
    show own_Go p e below _ (s₁.setTop (mkF m 16 #[.val (.ref sa), .val (.int (Int32.ofNat (mN + 1))), .val (.ref ap), .val (.int (2 : Int32)), .val (.int (Int32.ofNat (mN + 1 - 2)))] []))
    refine own_go (XS.aloadN X0.here hx rfl (hb hby own_ends_16) rfl rfl (Steps.refl _)) ?_
    show own_Go p e below _ (s₁.setTop (mkF m 17 #[.val (.ref sa), .val (.int (Int32.ofNat (mN + 1))), .val (.ref ap), .val (.int (2 : Int32)), .val (.int (Int32.ofNat (mN + 1 - 2)))] [(.ref sa)]))
    refine own_go (XS.iload X0.here hx rfl (hb hby own_ends_17) rfl (Steps.refl _)) ?_
    show own_Go p e below _ (s₁.setTop (mkF m 19 #[.val (.ref sa), .val (.int (Int32.ofNat (mN + 1))), .val (.ref ap), .val (.int (2 : Int32)), .val (.int (Int32.ofNat (mN + 1 - 2)))] [(.int (Int32.ofNat (mN + 1 - 2))), (.ref sa)]))
    refine own_go (own_ldI X0 hx hZ e0 Vs (own_i0 (by omega)) ((own_ltN (j := 5) (by omega) (by omega)).mpr (by omega)) (v := (S (mN + 1 - 2))) (own_getN S (n := 5) (by omega) (by omega)) (g := (mkF m 19 #[.val (.ref sa), .val (.int (Int32.ofNat (mN + 1))), .val (.ref ap), .val (.int (2 : Int32)), .val (.int (Int32.ofNat (mN + 1 - 2)))] [(.int (Int32.ofNat (mN + 1 - 2))), (.ref sa)])) rfl rfl (hb hby own_ends_19)) ?_
    show own_Go p e below _ (s₁.setTop (mkF m 20 #[.val (.ref sa), .val (.int (Int32.ofNat (mN + 1))), .val (.ref ap), .val (.int (2 : Int32)), .val (.int (Int32.ofNat (mN + 1 - 2)))] [(.int (S (mN + 1 - 2)))]))
    refine own_go (XS.aloadN X0.here hx rfl (hb hby own_ends_20) rfl rfl (Steps.refl _)) ?_
    show own_Go p e below _ (s₁.setTop (mkF m 21 #[.val (.ref sa), .val (.int (Int32.ofNat (mN + 1))), .val (.ref ap), .val (.int (2 : Int32)), .val (.int (Int32.ofNat (mN + 1 - 2)))] [(.ref ap), (.int (S (mN + 1 - 2)))]))
    refine own_go (XS.iconst X0.here hx rfl (hb hby own_ends_21) (Steps.refl _)) ?_
    show own_Go p e below _ (s₁.setTop (mkF m 22 #[.val (.ref sa), .val (.int (Int32.ofNat (mN + 1))), .val (.ref ap), .val (.int (2 : Int32)), .val (.int (Int32.ofNat (mN + 1 - 2)))] [(.int (0 : Int32)), (.ref ap), (.int (S (mN + 1 - 2)))]))
    refine own_go (own_ldI X0 hx hZ e0 Vp (by decide) (by decide) (v := (P 0)) rfl (g := (mkF m 22 #[.val (.ref sa), .val (.int (Int32.ofNat (mN + 1))), .val (.ref ap), .val (.int (2 : Int32)), .val (.int (Int32.ofNat (mN + 1 - 2)))] [(.int (0 : Int32)), (.ref ap), (.int (S (mN + 1 - 2)))])) rfl rfl (hb hby own_ends_22)) ?_
    show own_Go p e below _ (s₁.setTop (mkF m 23 #[.val (.ref sa), .val (.int (Int32.ofNat (mN + 1))), .val (.ref ap), .val (.int (2 : Int32)), .val (.int (Int32.ofNat (mN + 1 - 2)))] [(.int (P 0)), (.int (S (mN + 1 - 2)))]))
    by_cases hd0 : (S (mN + 1 - 2)) = (P 0)
    rotate_left
    · refine own_go (XS.icmpNo X0.here hx rfl (hb hby own_ends_23) rfl (feq hd0).1 (Steps.refl _)) ?_
      show own_Go p e below _ (s₁.setTop (mkF m 26 #[.val (.ref sa), .val (.int (Int32.ofNat (mN + 1))), .val (.ref ap), .val (.int (2 : Int32)), .val (.int (Int32.ofNat (mN + 1 - 2)))] []))
      refine own_go (XS.iconst X0.here hx rfl (hb hby own_ends_26) (Steps.refl _)) ?_
      show own_Go p e below _ (s₁.setTop (mkF m 27 #[.val (.ref sa), .val (.int (Int32.ofNat (mN + 1))), .val (.ref ap), .val (.int (2 : Int32)), .val (.int (Int32.ofNat (mN + 1 - 2)))] [(.int (0 : Int32))]))
      exact own_retZ X0 hx hlk e0 Bd.returns (hb hby own_ends_27) (Or.inl rfl) ⟨congrArg (fun u => some (Value.int u)) (own_b_f (by simp only [own_end, hk, hd0, decide_true, decide_false, Bool.and_true, Bool.true_and, Bool.and_false, Bool.false_and, Bool.and_self, Bool.false_eq_true, not_false_eq_true])).symm, rfl, rfl⟩ (by decide) (by decide)
    refine own_go (XS.icmpYes X0.here hx rfl (pc0 := 23) (pc' := 28) rfl (hb hby own_ends_23) rfl (teq hd0).1 (by decide) (by decide) (Steps.refl _)) ?_
    show own_Go p e below _ (s₁.setTop (mkF m 28 #[.val (.ref sa), .val (.int (Int32.ofNat (mN + 1))), .val (.ref ap), .val (.int (2 : Int32)), .val (.int (Int32.ofNat (mN + 1 - 2)))] []))
    refine own_go (XS.iloadN X0.here hx rfl (hb hby own_ends_28) rfl (Steps.refl _)) ?_
    show own_Go p e below _ (s₁.setTop (mkF m 29 #[.val (.ref sa), .val (.int (Int32.ofNat (mN + 1))), .val (.ref ap), .val (.int (2 : Int32)), .val (.int (Int32.ofNat (mN + 1 - 2)))] [(.int (2 : Int32))]))
    refine own_go (XS.iconst X0.here hx rfl (hb hby own_ends_29) (Steps.refl _)) ?_
    show own_Go p e below _ (s₁.setTop (mkF m 30 #[.val (.ref sa), .val (.int (Int32.ofNat (mN + 1))), .val (.ref ap), .val (.int (2 : Int32)), .val (.int (Int32.ofNat (mN + 1 - 2)))] [(.int (1 : Int32)), (.int (2 : Int32))]))
    refine own_go (XS.icmpNo X0.here hx rfl (hb hby own_ends_30) rfl (tlt (by decide : ((1 : Int32) < (2 : Int32)))).2.2.2 (Steps.refl _)) ?_
    show own_Go p e below _ (s₁.setTop (mkF m 33 #[.val (.ref sa), .val (.int (Int32.ofNat (mN + 1))), .val (.ref ap), .val (.int (2 : Int32)), .val (.int (Int32.ofNat (mN + 1 - 2)))] []))
    refine own_go (XS.aloadN X0.here hx rfl (hb hby own_ends_33) rfl rfl (Steps.refl _)) ?_
    show own_Go p e below _ (s₁.setTop (mkF m 34 #[.val (.ref sa), .val (.int (Int32.ofNat (mN + 1))), .val (.ref ap), .val (.int (2 : Int32)), .val (.int (Int32.ofNat (mN + 1 - 2)))] [(.ref sa)]))
    refine own_go (XS.iload X0.here hx rfl (hb hby own_ends_34) rfl (Steps.refl _)) ?_
    show own_Go p e below _ (s₁.setTop (mkF m 36 #[.val (.ref sa), .val (.int (Int32.ofNat (mN + 1))), .val (.ref ap), .val (.int (2 : Int32)), .val (.int (Int32.ofNat (mN + 1 - 2)))] [(.int (Int32.ofNat (mN + 1 - 2))), (.ref sa)]))
    refine own_go (XS.iconst X0.here hx rfl (hb hby own_ends_36) (Steps.refl _)) ?_
    show own_Go p e below _ (s₁.setTop (mkF m 37 #[.val (.ref sa), .val (.int (Int32.ofNat (mN + 1))), .val (.ref ap), .val (.int (2 : Int32)), .val (.int (Int32.ofNat (mN + 1 - 2)))] [(.int (1 : Int32)), (.int (Int32.ofNat (mN + 1 - 2))), (.ref sa)]))
    refine own_go (XS.iadd X0.here hx rfl (hb hby own_ends_37) rfl (Steps.refl _)) ?_
    show own_Go p e below _ (s₁.setTop (mkF m 38 #[.val (.ref sa), .val (.int (Int32.ofNat (mN + 1))), .val (.ref ap), .val (.int (2 : Int32)), .val (.int (Int32.ofNat (mN + 1 - 2)))] [(.int ((Int32.ofNat (mN + 1 - 2)) + (1 : Int32))), (.ref sa)]))
    rw [show Int32.ofNat (mN + 1 - 2) + (1 : Int32) = Int32.ofNat (mN + 1 - 2 + 1) from own_add _ 1]
    show own_Go p e below _ (s₁.setTop (mkF m 38 #[.val (.ref sa), .val (.int (Int32.ofNat (mN + 1))), .val (.ref ap), .val (.int (2 : Int32)), .val (.int (Int32.ofNat (mN + 1 - 2)))] [(.int (Int32.ofNat (mN + 1 - 2 + 1))), (.ref sa)]))
    refine own_go (own_ldI X0 hx hZ e0 Vs (own_i0 (by omega)) ((own_ltN (j := 5) (by omega) (by omega)).mpr (by omega)) (v := (S (mN + 1 - 2 + 1))) (own_getN S (n := 5) (by omega) (by omega)) (g := (mkF m 38 #[.val (.ref sa), .val (.int (Int32.ofNat (mN + 1))), .val (.ref ap), .val (.int (2 : Int32)), .val (.int (Int32.ofNat (mN + 1 - 2)))] [(.int (Int32.ofNat (mN + 1 - 2 + 1))), (.ref sa)])) rfl rfl (hb hby own_ends_38)) ?_
    show own_Go p e below _ (s₁.setTop (mkF m 39 #[.val (.ref sa), .val (.int (Int32.ofNat (mN + 1))), .val (.ref ap), .val (.int (2 : Int32)), .val (.int (Int32.ofNat (mN + 1 - 2)))] [(.int (S (mN + 1 - 2 + 1)))]))
    refine own_go (XS.aloadN X0.here hx rfl (hb hby own_ends_39) rfl rfl (Steps.refl _)) ?_
    show own_Go p e below _ (s₁.setTop (mkF m 40 #[.val (.ref sa), .val (.int (Int32.ofNat (mN + 1))), .val (.ref ap), .val (.int (2 : Int32)), .val (.int (Int32.ofNat (mN + 1 - 2)))] [(.ref ap), (.int (S (mN + 1 - 2 + 1)))]))
    refine own_go (XS.iconst X0.here hx rfl (hb hby own_ends_40) (Steps.refl _)) ?_
    show own_Go p e below _ (s₁.setTop (mkF m 41 #[.val (.ref sa), .val (.int (Int32.ofNat (mN + 1))), .val (.ref ap), .val (.int (2 : Int32)), .val (.int (Int32.ofNat (mN + 1 - 2)))] [(.int (1 : Int32)), (.ref ap), (.int (S (mN + 1 - 2 + 1)))]))
    refine own_go (own_ldI X0 hx hZ e0 Vp (by decide) (by decide) (v := (P 1)) rfl (g := (mkF m 41 #[.val (.ref sa), .val (.int (Int32.ofNat (mN + 1))), .val (.ref ap), .val (.int (2 : Int32)), .val (.int (Int32.ofNat (mN + 1 - 2)))] [(.int (1 : Int32)), (.ref ap), (.int (S (mN + 1 - 2 + 1)))])) rfl rfl (hb hby own_ends_41)) ?_
    show own_Go p e below _ (s₁.setTop (mkF m 42 #[.val (.ref sa), .val (.int (Int32.ofNat (mN + 1))), .val (.ref ap), .val (.int (2 : Int32)), .val (.int (Int32.ofNat (mN + 1 - 2)))] [(.int (P 1)), (.int (S (mN + 1 - 2 + 1)))]))
    by_cases hd1 : (S (mN + 1 - 2 + 1)) = (P 1)
    rotate_left
    · refine own_go (XS.icmpNo X0.here hx rfl (hb hby own_ends_42) rfl (feq hd1).1 (Steps.refl _)) ?_
      show own_Go p e below _ (s₁.setTop (mkF m 45 #[.val (.ref sa), .val (.int (Int32.ofNat (mN + 1))), .val (.ref ap), .val (.int (2 : Int32)), .val (.int (Int32.ofNat (mN + 1 - 2)))] []))
      refine own_go (XS.iconst X0.here hx rfl (hb hby own_ends_45) (Steps.refl _)) ?_
      show own_Go p e below _ (s₁.setTop (mkF m 46 #[.val (.ref sa), .val (.int (Int32.ofNat (mN + 1))), .val (.ref ap), .val (.int (2 : Int32)), .val (.int (Int32.ofNat (mN + 1 - 2)))] [(.int (0 : Int32))]))
      exact own_retZ X0 hx hlk e0 Bd.returns (hb hby own_ends_46) (Or.inl rfl) ⟨congrArg (fun u => some (Value.int u)) (own_b_f (by simp only [own_end, hk, hd0, hd1, decide_true, decide_false, Bool.and_true, Bool.true_and, Bool.and_false, Bool.false_and, Bool.and_self, Bool.false_eq_true, not_false_eq_true])).symm, rfl, rfl⟩ (by decide) (by decide)
    refine own_go (XS.icmpYes X0.here hx rfl (pc0 := 42) (pc' := 47) rfl (hb hby own_ends_42) rfl (teq hd1).1 (by decide) (by decide) (Steps.refl _)) ?_
    show own_Go p e below _ (s₁.setTop (mkF m 47 #[.val (.ref sa), .val (.int (Int32.ofNat (mN + 1))), .val (.ref ap), .val (.int (2 : Int32)), .val (.int (Int32.ofNat (mN + 1 - 2)))] []))
    refine own_go (XS.iloadN X0.here hx rfl (hb hby own_ends_47) rfl (Steps.refl _)) ?_
    show own_Go p e below _ (s₁.setTop (mkF m 48 #[.val (.ref sa), .val (.int (Int32.ofNat (mN + 1))), .val (.ref ap), .val (.int (2 : Int32)), .val (.int (Int32.ofNat (mN + 1 - 2)))] [(.int (2 : Int32))]))
    refine own_go (XS.iconst X0.here hx rfl (hb hby own_ends_48) (Steps.refl _)) ?_
    show own_Go p e below _ (s₁.setTop (mkF m 49 #[.val (.ref sa), .val (.int (Int32.ofNat (mN + 1))), .val (.ref ap), .val (.int (2 : Int32)), .val (.int (Int32.ofNat (mN + 1 - 2)))] [(.int (2 : Int32)), (.int (2 : Int32))]))
    refine own_go (XS.icmpYes X0.here hx rfl (pc0 := 49) (pc' := 66) rfl (hb hby own_ends_49) rfl (flt (by decide : ¬ ((2 : Int32) < (2 : Int32)))).2.2.2 (by decide) (by decide) (Steps.refl _)) ?_
    show own_Go p e below _ (s₁.setTop (mkF m 66 #[.val (.ref sa), .val (.int (Int32.ofNat (mN + 1))), .val (.ref ap), .val (.int (2 : Int32)), .val (.int (Int32.ofNat (mN + 1 - 2)))] []))
    refine own_go (XS.iloadN X0.here hx rfl (hb hby own_ends_66) rfl (Steps.refl _)) ?_
    show own_Go p e below _ (s₁.setTop (mkF m 67 #[.val (.ref sa), .val (.int (Int32.ofNat (mN + 1))), .val (.ref ap), .val (.int (2 : Int32)), .val (.int (Int32.ofNat (mN + 1 - 2)))] [(.int (2 : Int32))]))
    refine own_go (XS.iconst X0.here hx rfl (hb hby own_ends_67) (Steps.refl _)) ?_
    show own_Go p e below _ (s₁.setTop (mkF m 68 #[.val (.ref sa), .val (.int (Int32.ofNat (mN + 1))), .val (.ref ap), .val (.int (2 : Int32)), .val (.int (Int32.ofNat (mN + 1 - 2)))] [(.int (3 : Int32)), (.int (2 : Int32))]))
    refine own_go (XS.icmpYes X0.here hx rfl (pc0 := 68) (pc' := 85) rfl (hb hby own_ends_68) rfl (flt (by decide : ¬ ((3 : Int32) < (2 : Int32)))).2.2.2 (by decide) (by decide) (Steps.refl _)) ?_
    show own_Go p e below _ (s₁.setTop (mkF m 85 #[.val (.ref sa), .val (.int (Int32.ofNat (mN + 1))), .val (.ref ap), .val (.int (2 : Int32)), .val (.int (Int32.ofNat (mN + 1 - 2)))] []))
    refine own_go (XS.iconst X0.here hx rfl (hb hby own_ends_85) (Steps.refl _)) ?_
    show own_Go p e below _ (s₁.setTop (mkF m 86 #[.val (.ref sa), .val (.int (Int32.ofNat (mN + 1))), .val (.ref ap), .val (.int (2 : Int32)), .val (.int (Int32.ofNat (mN + 1 - 2)))] [(.int (1 : Int32))]))
    exact own_retZ X0 hx hlk e0 Bd.returns (hb hby own_ends_86) (Or.inr rfl) ⟨congrArg (fun u => some (Value.int u)) (own_b_t (by simp only [own_end, hk, hd0, hd1, decide_true, decide_false, Bool.and_true, Bool.true_and, Bool.and_false, Bool.false_and, Bool.and_self, Bool.false_eq_true, not_false_eq_true])).symm, rfl, rfl⟩ (by decide) (by decide)
set_option maxRecDepth 65536 in
set_option maxHeartbeats 40000000 in
theorem rm_ends3 (l : Launch) (Z : State) (a0 : Array Value) (hw : ∀ d ∈ tables_1, d.before a0 Z = true) (sa ap : Addr) (ks kp : ClassId) (S P : Nat → Int32) (mN : Nat) (h0 : Heap) (n0 : Nat) (Z0 : n0 ≤ h0.size) (hm : mN ≤ 4) (Vs : Arv Z h0 sa ks .int (5 : Int32) (own_vN S 5) (.int (0 : Int32))) (Vp : Arv Z h0 ap kp .int (4 : Int32) (own_vN P 4) (.int (0 : Int32))) :
    own_Met l Z (⟨"com/example/crossweave/crossweave/soap/OctetPatternNextPinLaw", "ends", "([II[II)Z"⟩ : MethodName) method_4_code 5 (some .boolean) ({ frames := 0, cells := 0, slots := 0, locals := 0 } : Room) #[(.ref sa), (.int (Int32.ofNat (mN + 1))), (.ref ap), (.int (3 : Int32))] h0 (fun v h L => v = some (.int (own_b (own_end S P mN 3 = true))) ∧ L = [] ∧ h = h0) := by
  refine MetFree.of_bodySF (plainFor_of_name own_f1) hisR ?_
  intro p e s m args below meth c s₁ Bd hml0 hP hK
  obtain ⟨rfl, hZ, hh⟩ := hP
  have hx := Bd.exec
  have hby := Bd.bytes
  have hlk : meth.locks = false := Bd.notSynchronized
  have hml : c.maxLocals = 5 := hml0
  have hown : s.vm.findClass "com/example/crossweave/crossweave/soap/OctetPatternNextPinLaw" = some m.cls := findClass_of_methodNamed Bd.named
  have hnm := (name_of_methodNamed Bd.named Bd.method).1
  have X0 : Stand p l e ({ frames := 0, cells := 0, slots := 0, locals := 0 } : Room) s m #[(.ref sa), (.int (Int32.ofNat (mN + 1))), (.ref ap), (.int (3 : Int32))] below meth c s₁ [] 0 0 := Stand.of_body Bd
  have e0 : s₁.heap = h0 := by rw [← hh, Bd.state]; rfl
  show own_Go p e below (own_G s (fun v h L => v = some (.int (own_b (own_end S P mN 3 = true))) ∧ L = [] ∧ h = h0) 0 0) (s₁.setTop (entryFrame m #[(.ref sa), (.int (Int32.ofNat (mN + 1))), (.ref ap), (.int (3 : Int32))] 5))
  rw [own_f4]
  show own_Go p e below _ (s₁.setTop (mkF m 0 #[.val (.ref sa), .val (.int (Int32.ofNat (mN + 1))), .val (.ref ap), .val (.int (3 : Int32)), .unset] []))
  refine own_go (XS.iloadN X0.here hx rfl (hb hby own_ends_0) rfl (Steps.refl _)) ?_
  show own_Go p e below _ (s₁.setTop (mkF m 1 #[.val (.ref sa), .val (.int (Int32.ofNat (mN + 1))), .val (.ref ap), .val (.int (3 : Int32)), .unset] [(.int (3 : Int32))]))
  refine own_go (XS.iloadN X0.here hx rfl (hb hby own_ends_1) rfl (Steps.refl _)) ?_
  show own_Go p e below _ (s₁.setTop (mkF m 2 #[.val (.ref sa), .val (.int (Int32.ofNat (mN + 1))), .val (.ref ap), .val (.int (3 : Int32)), .unset] [(.int (Int32.ofNat (mN + 1))), (.int (3 : Int32))]))
  by_cases hc2 : (Int32.ofNat (mN + 1)) < (3 : Int32)
  · have hk := (own_ltN (i := mN + 1) (j := 3) (by omega) (by omega)).mp hc2
    have hk : ¬ 3 ≤ mN + 1 := by omega
    refine own_go (XS.icmpNo X0.here hx rfl (hb hby own_ends_2) rfl (tlt hc2).2.2.2 (Steps.refl _)) ?_
    show own_Go p e below _ (s₁.setTop (mkF m 5 #[.val (.ref sa), .val (.int (Int32.ofNat (mN + 1))), .val (.ref ap), .val (.int (3 : Int32)), .unset] []))
    refine own_go (XS.iconst X0.here hx rfl (hb hby own_ends_5) (Steps.refl _)) ?_
    show own_Go p e below _ (s₁.setTop (mkF m 6 #[.val (.ref sa), .val (.int (Int32.ofNat (mN + 1))), .val (.ref ap), .val (.int (3 : Int32)), .unset] [(.int (0 : Int32))]))
    exact own_retZ X0 hx hlk e0 Bd.returns (hb hby own_ends_6) (Or.inl rfl) ⟨congrArg (fun u => some (Value.int u)) (own_b_f (by simp only [own_end, hk, decide_false, Bool.false_and, Bool.false_eq_true, not_false_eq_true])).symm, rfl, rfl⟩ (by decide) (by decide)
  · have hk : 3 ≤ mN + 1 := by have q : ¬ mN + 1 < 3 := fun u => hc2 ((own_ltN (i := mN + 1) (j := 3) (by omega) (by omega)).mpr u); omega
    refine own_go (XS.icmpYes X0.here hx rfl (pc0 := 2) (pc' := 7) rfl (hb hby own_ends_2) rfl (flt hc2).2.2.2 (by decide) (by decide) (Steps.refl _)) ?_
    show own_Go p e below _ (s₁.setTop (mkF m 7 #[.val (.ref sa), .val (.int (Int32.ofNat (mN + 1))), .val (.ref ap), .val (.int (3 : Int32)), .unset] []))
    refine own_go (XS.iloadN X0.here hx rfl (hb hby own_ends_7) rfl (Steps.refl _)) ?_
    show own_Go p e below _ (s₁.setTop (mkF m 8 #[.val (.ref sa), .val (.int (Int32.ofNat (mN + 1))), .val (.ref ap), .val (.int (3 : Int32)), .unset] [(.int (Int32.ofNat (mN + 1)))]))
    refine own_go (XS.iloadN X0.here hx rfl (hb hby own_ends_8) rfl (Steps.refl _)) ?_
    show own_Go p e below _ (s₁.setTop (mkF m 9 #[.val (.ref sa), .val (.int (Int32.ofNat (mN + 1))), .val (.ref ap), .val (.int (3 : Int32)), .unset] [(.int (3 : Int32)), (.int (Int32.ofNat (mN + 1)))]))
    refine own_go (XS.isub X0.here hx rfl (hb hby own_ends_9) rfl (Steps.refl _)) ?_
    show own_Go p e below _ (s₁.setTop (mkF m 10 #[.val (.ref sa), .val (.int (Int32.ofNat (mN + 1))), .val (.ref ap), .val (.int (3 : Int32)), .unset] [(.int ((Int32.ofNat (mN + 1)) - (3 : Int32)))]))
    rw [show Int32.ofNat (mN + 1) - (3 : Int32) = Int32.ofNat (mN + 1 - 3) from own_sub (j := 3) hk]
    show own_Go p e below _ (s₁.setTop (mkF m 10 #[.val (.ref sa), .val (.int (Int32.ofNat (mN + 1))), .val (.ref ap), .val (.int (3 : Int32)), .unset] [(.int (Int32.ofNat (mN + 1 - 3)))]))
    refine own_go (XS.istore X0.here hx rfl (hb hby own_ends_10) rfl (l' := #[.val (.ref sa), .val (.int (Int32.ofNat (mN + 1))), .val (.ref ap), .val (.int (3 : Int32)), .val (.int (Int32.ofNat (mN + 1 - 3)))]) rfl (Steps.refl _)) ?_
    show own_Go p e below _ (s₁.setTop (mkF m 12 #[.val (.ref sa), .val (.int (Int32.ofNat (mN + 1))), .val (.ref ap), .val (.int (3 : Int32)), .val (.int (Int32.ofNat (mN + 1 - 3)))] []))
    refine own_go (XS.iloadN X0.here hx rfl (hb hby own_ends_12) rfl (Steps.refl _)) ?_
    show own_Go p e below _ (s₁.setTop (mkF m 13 #[.val (.ref sa), .val (.int (Int32.ofNat (mN + 1))), .val (.ref ap), .val (.int (3 : Int32)), .val (.int (Int32.ofNat (mN + 1 - 3)))] [(.int (3 : Int32))]))
    refine own_go (XS.ifNo X0.here hx rfl (hb hby own_ends_13) rfl ((if0 _ _).trans (tlt (by decide : ((0 : Int32) < (3 : Int32)))).2.2.2) (Steps.refl _)) ?_
    show own_Go p e below _ (s₁.setTop (mkF m 16 #[.val (.ref sa), .val (.int (Int32.ofNat (mN + 1))), .val (.ref ap), .val (.int (3 : Int32)), .val (.int (Int32.ofNat (mN + 1 - 3)))] []))
    refine own_go (XS.aloadN X0.here hx rfl (hb hby own_ends_16) rfl rfl (Steps.refl _)) ?_
    show own_Go p e below _ (s₁.setTop (mkF m 17 #[.val (.ref sa), .val (.int (Int32.ofNat (mN + 1))), .val (.ref ap), .val (.int (3 : Int32)), .val (.int (Int32.ofNat (mN + 1 - 3)))] [(.ref sa)]))
    refine own_go (XS.iload X0.here hx rfl (hb hby own_ends_17) rfl (Steps.refl _)) ?_
    show own_Go p e below _ (s₁.setTop (mkF m 19 #[.val (.ref sa), .val (.int (Int32.ofNat (mN + 1))), .val (.ref ap), .val (.int (3 : Int32)), .val (.int (Int32.ofNat (mN + 1 - 3)))] [(.int (Int32.ofNat (mN + 1 - 3))), (.ref sa)]))
    refine own_go (own_ldI X0 hx hZ e0 Vs (own_i0 (by omega)) ((own_ltN (j := 5) (by omega) (by omega)).mpr (by omega)) (v := (S (mN + 1 - 3))) (own_getN S (n := 5) (by omega) (by omega)) (g := (mkF m 19 #[.val (.ref sa), .val (.int (Int32.ofNat (mN + 1))), .val (.ref ap), .val (.int (3 : Int32)), .val (.int (Int32.ofNat (mN + 1 - 3)))] [(.int (Int32.ofNat (mN + 1 - 3))), (.ref sa)])) rfl rfl (hb hby own_ends_19)) ?_
    show own_Go p e below _ (s₁.setTop (mkF m 20 #[.val (.ref sa), .val (.int (Int32.ofNat (mN + 1))), .val (.ref ap), .val (.int (3 : Int32)), .val (.int (Int32.ofNat (mN + 1 - 3)))] [(.int (S (mN + 1 - 3)))]))
    refine own_go (XS.aloadN X0.here hx rfl (hb hby own_ends_20) rfl rfl (Steps.refl _)) ?_
    show own_Go p e below _ (s₁.setTop (mkF m 21 #[.val (.ref sa), .val (.int (Int32.ofNat (mN + 1))), .val (.ref ap), .val (.int (3 : Int32)), .val (.int (Int32.ofNat (mN + 1 - 3)))] [(.ref ap), (.int (S (mN + 1 - 3)))]))
    refine own_go (XS.iconst X0.here hx rfl (hb hby own_ends_21) (Steps.refl _)) ?_
    show own_Go p e below _ (s₁.setTop (mkF m 22 #[.val (.ref sa), .val (.int (Int32.ofNat (mN + 1))), .val (.ref ap), .val (.int (3 : Int32)), .val (.int (Int32.ofNat (mN + 1 - 3)))] [(.int (0 : Int32)), (.ref ap), (.int (S (mN + 1 - 3)))]))
    refine own_go (own_ldI X0 hx hZ e0 Vp (by decide) (by decide) (v := (P 0)) rfl (g := (mkF m 22 #[.val (.ref sa), .val (.int (Int32.ofNat (mN + 1))), .val (.ref ap), .val (.int (3 : Int32)), .val (.int (Int32.ofNat (mN + 1 - 3)))] [(.int (0 : Int32)), (.ref ap), (.int (S (mN + 1 - 3)))])) rfl rfl (hb hby own_ends_22)) ?_
    show own_Go p e below _ (s₁.setTop (mkF m 23 #[.val (.ref sa), .val (.int (Int32.ofNat (mN + 1))), .val (.ref ap), .val (.int (3 : Int32)), .val (.int (Int32.ofNat (mN + 1 - 3)))] [(.int (P 0)), (.int (S (mN + 1 - 3)))]))
    by_cases hd0 : (S (mN + 1 - 3)) = (P 0)
    rotate_left
    · refine own_go (XS.icmpNo X0.here hx rfl (hb hby own_ends_23) rfl (feq hd0).1 (Steps.refl _)) ?_
      show own_Go p e below _ (s₁.setTop (mkF m 26 #[.val (.ref sa), .val (.int (Int32.ofNat (mN + 1))), .val (.ref ap), .val (.int (3 : Int32)), .val (.int (Int32.ofNat (mN + 1 - 3)))] []))
      refine own_go (XS.iconst X0.here hx rfl (hb hby own_ends_26) (Steps.refl _)) ?_
      show own_Go p e below _ (s₁.setTop (mkF m 27 #[.val (.ref sa), .val (.int (Int32.ofNat (mN + 1))), .val (.ref ap), .val (.int (3 : Int32)), .val (.int (Int32.ofNat (mN + 1 - 3)))] [(.int (0 : Int32))]))
      exact own_retZ X0 hx hlk e0 Bd.returns (hb hby own_ends_27) (Or.inl rfl) ⟨congrArg (fun u => some (Value.int u)) (own_b_f (by simp only [own_end, hk, hd0, decide_true, decide_false, Bool.and_true, Bool.true_and, Bool.and_false, Bool.false_and, Bool.and_self, Bool.false_eq_true, not_false_eq_true])).symm, rfl, rfl⟩ (by decide) (by decide)
    refine own_go (XS.icmpYes X0.here hx rfl (pc0 := 23) (pc' := 28) rfl (hb hby own_ends_23) rfl (teq hd0).1 (by decide) (by decide) (Steps.refl _)) ?_
    show own_Go p e below _ (s₁.setTop (mkF m 28 #[.val (.ref sa), .val (.int (Int32.ofNat (mN + 1))), .val (.ref ap), .val (.int (3 : Int32)), .val (.int (Int32.ofNat (mN + 1 - 3)))] []))
    refine own_go (XS.iloadN X0.here hx rfl (hb hby own_ends_28) rfl (Steps.refl _)) ?_
    show own_Go p e below _ (s₁.setTop (mkF m 29 #[.val (.ref sa), .val (.int (Int32.ofNat (mN + 1))), .val (.ref ap), .val (.int (3 : Int32)), .val (.int (Int32.ofNat (mN + 1 - 3)))] [(.int (3 : Int32))]))
    refine own_go (XS.iconst X0.here hx rfl (hb hby own_ends_29) (Steps.refl _)) ?_
    show own_Go p e below _ (s₁.setTop (mkF m 30 #[.val (.ref sa), .val (.int (Int32.ofNat (mN + 1))), .val (.ref ap), .val (.int (3 : Int32)), .val (.int (Int32.ofNat (mN + 1 - 3)))] [(.int (1 : Int32)), (.int (3 : Int32))]))
    refine own_go (XS.icmpNo X0.here hx rfl (hb hby own_ends_30) rfl (tlt (by decide : ((1 : Int32) < (3 : Int32)))).2.2.2 (Steps.refl _)) ?_
    show own_Go p e below _ (s₁.setTop (mkF m 33 #[.val (.ref sa), .val (.int (Int32.ofNat (mN + 1))), .val (.ref ap), .val (.int (3 : Int32)), .val (.int (Int32.ofNat (mN + 1 - 3)))] []))
    refine own_go (XS.aloadN X0.here hx rfl (hb hby own_ends_33) rfl rfl (Steps.refl _)) ?_
    show own_Go p e below _ (s₁.setTop (mkF m 34 #[.val (.ref sa), .val (.int (Int32.ofNat (mN + 1))), .val (.ref ap), .val (.int (3 : Int32)), .val (.int (Int32.ofNat (mN + 1 - 3)))] [(.ref sa)]))
    refine own_go (XS.iload X0.here hx rfl (hb hby own_ends_34) rfl (Steps.refl _)) ?_
    show own_Go p e below _ (s₁.setTop (mkF m 36 #[.val (.ref sa), .val (.int (Int32.ofNat (mN + 1))), .val (.ref ap), .val (.int (3 : Int32)), .val (.int (Int32.ofNat (mN + 1 - 3)))] [(.int (Int32.ofNat (mN + 1 - 3))), (.ref sa)]))
    refine own_go (XS.iconst X0.here hx rfl (hb hby own_ends_36) (Steps.refl _)) ?_
    show own_Go p e below _ (s₁.setTop (mkF m 37 #[.val (.ref sa), .val (.int (Int32.ofNat (mN + 1))), .val (.ref ap), .val (.int (3 : Int32)), .val (.int (Int32.ofNat (mN + 1 - 3)))] [(.int (1 : Int32)), (.int (Int32.ofNat (mN + 1 - 3))), (.ref sa)]))
    refine own_go (XS.iadd X0.here hx rfl (hb hby own_ends_37) rfl (Steps.refl _)) ?_
    show own_Go p e below _ (s₁.setTop (mkF m 38 #[.val (.ref sa), .val (.int (Int32.ofNat (mN + 1))), .val (.ref ap), .val (.int (3 : Int32)), .val (.int (Int32.ofNat (mN + 1 - 3)))] [(.int ((Int32.ofNat (mN + 1 - 3)) + (1 : Int32))), (.ref sa)]))
    rw [show Int32.ofNat (mN + 1 - 3) + (1 : Int32) = Int32.ofNat (mN + 1 - 3 + 1) from own_add _ 1]
    show own_Go p e below _ (s₁.setTop (mkF m 38 #[.val (.ref sa), .val (.int (Int32.ofNat (mN + 1))), .val (.ref ap), .val (.int (3 : Int32)), .val (.int (Int32.ofNat (mN + 1 - 3)))] [(.int (Int32.ofNat (mN + 1 - 3 + 1))), (.ref sa)]))
    refine own_go (own_ldI X0 hx hZ e0 Vs (own_i0 (by omega)) ((own_ltN (j := 5) (by omega) (by omega)).mpr (by omega)) (v := (S (mN + 1 - 3 + 1))) (own_getN S (n := 5) (by omega) (by omega)) (g := (mkF m 38 #[.val (.ref sa), .val (.int (Int32.ofNat (mN + 1))), .val (.ref ap), .val (.int (3 : Int32)), .val (.int (Int32.ofNat (mN + 1 - 3)))] [(.int (Int32.ofNat (mN + 1 - 3 + 1))), (.ref sa)])) rfl rfl (hb hby own_ends_38)) ?_
    show own_Go p e below _ (s₁.setTop (mkF m 39 #[.val (.ref sa), .val (.int (Int32.ofNat (mN + 1))), .val (.ref ap), .val (.int (3 : Int32)), .val (.int (Int32.ofNat (mN + 1 - 3)))] [(.int (S (mN + 1 - 3 + 1)))]))
    refine own_go (XS.aloadN X0.here hx rfl (hb hby own_ends_39) rfl rfl (Steps.refl _)) ?_
    show own_Go p e below _ (s₁.setTop (mkF m 40 #[.val (.ref sa), .val (.int (Int32.ofNat (mN + 1))), .val (.ref ap), .val (.int (3 : Int32)), .val (.int (Int32.ofNat (mN + 1 - 3)))] [(.ref ap), (.int (S (mN + 1 - 3 + 1)))]))
    refine own_go (XS.iconst X0.here hx rfl (hb hby own_ends_40) (Steps.refl _)) ?_
    show own_Go p e below _ (s₁.setTop (mkF m 41 #[.val (.ref sa), .val (.int (Int32.ofNat (mN + 1))), .val (.ref ap), .val (.int (3 : Int32)), .val (.int (Int32.ofNat (mN + 1 - 3)))] [(.int (1 : Int32)), (.ref ap), (.int (S (mN + 1 - 3 + 1)))]))
    refine own_go (own_ldI X0 hx hZ e0 Vp (by decide) (by decide) (v := (P 1)) rfl (g := (mkF m 41 #[.val (.ref sa), .val (.int (Int32.ofNat (mN + 1))), .val (.ref ap), .val (.int (3 : Int32)), .val (.int (Int32.ofNat (mN + 1 - 3)))] [(.int (1 : Int32)), (.ref ap), (.int (S (mN + 1 - 3 + 1)))])) rfl rfl (hb hby own_ends_41)) ?_
    show own_Go p e below _ (s₁.setTop (mkF m 42 #[.val (.ref sa), .val (.int (Int32.ofNat (mN + 1))), .val (.ref ap), .val (.int (3 : Int32)), .val (.int (Int32.ofNat (mN + 1 - 3)))] [(.int (P 1)), (.int (S (mN + 1 - 3 + 1)))]))
    by_cases hd1 : (S (mN + 1 - 3 + 1)) = (P 1)
    rotate_left
    · refine own_go (XS.icmpNo X0.here hx rfl (hb hby own_ends_42) rfl (feq hd1).1 (Steps.refl _)) ?_
      show own_Go p e below _ (s₁.setTop (mkF m 45 #[.val (.ref sa), .val (.int (Int32.ofNat (mN + 1))), .val (.ref ap), .val (.int (3 : Int32)), .val (.int (Int32.ofNat (mN + 1 - 3)))] []))
      refine own_go (XS.iconst X0.here hx rfl (hb hby own_ends_45) (Steps.refl _)) ?_
      show own_Go p e below _ (s₁.setTop (mkF m 46 #[.val (.ref sa), .val (.int (Int32.ofNat (mN + 1))), .val (.ref ap), .val (.int (3 : Int32)), .val (.int (Int32.ofNat (mN + 1 - 3)))] [(.int (0 : Int32))]))
      exact own_retZ X0 hx hlk e0 Bd.returns (hb hby own_ends_46) (Or.inl rfl) ⟨congrArg (fun u => some (Value.int u)) (own_b_f (by simp only [own_end, hk, hd0, hd1, decide_true, decide_false, Bool.and_true, Bool.true_and, Bool.and_false, Bool.false_and, Bool.and_self, Bool.false_eq_true, not_false_eq_true])).symm, rfl, rfl⟩ (by decide) (by decide)
    refine own_go (XS.icmpYes X0.here hx rfl (pc0 := 42) (pc' := 47) rfl (hb hby own_ends_42) rfl (teq hd1).1 (by decide) (by decide) (Steps.refl _)) ?_
    show own_Go p e below _ (s₁.setTop (mkF m 47 #[.val (.ref sa), .val (.int (Int32.ofNat (mN + 1))), .val (.ref ap), .val (.int (3 : Int32)), .val (.int (Int32.ofNat (mN + 1 - 3)))] []))
    refine own_go (XS.iloadN X0.here hx rfl (hb hby own_ends_47) rfl (Steps.refl _)) ?_
    show own_Go p e below _ (s₁.setTop (mkF m 48 #[.val (.ref sa), .val (.int (Int32.ofNat (mN + 1))), .val (.ref ap), .val (.int (3 : Int32)), .val (.int (Int32.ofNat (mN + 1 - 3)))] [(.int (3 : Int32))]))
    refine own_go (XS.iconst X0.here hx rfl (hb hby own_ends_48) (Steps.refl _)) ?_
    show own_Go p e below _ (s₁.setTop (mkF m 49 #[.val (.ref sa), .val (.int (Int32.ofNat (mN + 1))), .val (.ref ap), .val (.int (3 : Int32)), .val (.int (Int32.ofNat (mN + 1 - 3)))] [(.int (2 : Int32)), (.int (3 : Int32))]))
    refine own_go (XS.icmpNo X0.here hx rfl (hb hby own_ends_49) rfl (tlt (by decide : ((2 : Int32) < (3 : Int32)))).2.2.2 (Steps.refl _)) ?_
    show own_Go p e below _ (s₁.setTop (mkF m 52 #[.val (.ref sa), .val (.int (Int32.ofNat (mN + 1))), .val (.ref ap), .val (.int (3 : Int32)), .val (.int (Int32.ofNat (mN + 1 - 3)))] []))
    refine own_go (XS.aloadN X0.here hx rfl (hb hby own_ends_52) rfl rfl (Steps.refl _)) ?_
    show own_Go p e below _ (s₁.setTop (mkF m 53 #[.val (.ref sa), .val (.int (Int32.ofNat (mN + 1))), .val (.ref ap), .val (.int (3 : Int32)), .val (.int (Int32.ofNat (mN + 1 - 3)))] [(.ref sa)]))
    refine own_go (XS.iload X0.here hx rfl (hb hby own_ends_53) rfl (Steps.refl _)) ?_
    show own_Go p e below _ (s₁.setTop (mkF m 55 #[.val (.ref sa), .val (.int (Int32.ofNat (mN + 1))), .val (.ref ap), .val (.int (3 : Int32)), .val (.int (Int32.ofNat (mN + 1 - 3)))] [(.int (Int32.ofNat (mN + 1 - 3))), (.ref sa)]))
    refine own_go (XS.iconst X0.here hx rfl (hb hby own_ends_55) (Steps.refl _)) ?_
    show own_Go p e below _ (s₁.setTop (mkF m 56 #[.val (.ref sa), .val (.int (Int32.ofNat (mN + 1))), .val (.ref ap), .val (.int (3 : Int32)), .val (.int (Int32.ofNat (mN + 1 - 3)))] [(.int (2 : Int32)), (.int (Int32.ofNat (mN + 1 - 3))), (.ref sa)]))
    refine own_go (XS.iadd X0.here hx rfl (hb hby own_ends_56) rfl (Steps.refl _)) ?_
    show own_Go p e below _ (s₁.setTop (mkF m 57 #[.val (.ref sa), .val (.int (Int32.ofNat (mN + 1))), .val (.ref ap), .val (.int (3 : Int32)), .val (.int (Int32.ofNat (mN + 1 - 3)))] [(.int ((Int32.ofNat (mN + 1 - 3)) + (2 : Int32))), (.ref sa)]))
    rw [show Int32.ofNat (mN + 1 - 3) + (2 : Int32) = Int32.ofNat (mN + 1 - 3 + 2) from own_add _ 2]
    show own_Go p e below _ (s₁.setTop (mkF m 57 #[.val (.ref sa), .val (.int (Int32.ofNat (mN + 1))), .val (.ref ap), .val (.int (3 : Int32)), .val (.int (Int32.ofNat (mN + 1 - 3)))] [(.int (Int32.ofNat (mN + 1 - 3 + 2))), (.ref sa)]))
    refine own_go (own_ldI X0 hx hZ e0 Vs (own_i0 (by omega)) ((own_ltN (j := 5) (by omega) (by omega)).mpr (by omega)) (v := (S (mN + 1 - 3 + 2))) (own_getN S (n := 5) (by omega) (by omega)) (g := (mkF m 57 #[.val (.ref sa), .val (.int (Int32.ofNat (mN + 1))), .val (.ref ap), .val (.int (3 : Int32)), .val (.int (Int32.ofNat (mN + 1 - 3)))] [(.int (Int32.ofNat (mN + 1 - 3 + 2))), (.ref sa)])) rfl rfl (hb hby own_ends_57)) ?_
    show own_Go p e below _ (s₁.setTop (mkF m 58 #[.val (.ref sa), .val (.int (Int32.ofNat (mN + 1))), .val (.ref ap), .val (.int (3 : Int32)), .val (.int (Int32.ofNat (mN + 1 - 3)))] [(.int (S (mN + 1 - 3 + 2)))]))
    refine own_go (XS.aloadN X0.here hx rfl (hb hby own_ends_58) rfl rfl (Steps.refl _)) ?_
    show own_Go p e below _ (s₁.setTop (mkF m 59 #[.val (.ref sa), .val (.int (Int32.ofNat (mN + 1))), .val (.ref ap), .val (.int (3 : Int32)), .val (.int (Int32.ofNat (mN + 1 - 3)))] [(.ref ap), (.int (S (mN + 1 - 3 + 2)))]))
    refine own_go (XS.iconst X0.here hx rfl (hb hby own_ends_59) (Steps.refl _)) ?_
    show own_Go p e below _ (s₁.setTop (mkF m 60 #[.val (.ref sa), .val (.int (Int32.ofNat (mN + 1))), .val (.ref ap), .val (.int (3 : Int32)), .val (.int (Int32.ofNat (mN + 1 - 3)))] [(.int (2 : Int32)), (.ref ap), (.int (S (mN + 1 - 3 + 2)))]))
    refine own_go (own_ldI X0 hx hZ e0 Vp (by decide) (by decide) (v := (P 2)) rfl (g := (mkF m 60 #[.val (.ref sa), .val (.int (Int32.ofNat (mN + 1))), .val (.ref ap), .val (.int (3 : Int32)), .val (.int (Int32.ofNat (mN + 1 - 3)))] [(.int (2 : Int32)), (.ref ap), (.int (S (mN + 1 - 3 + 2)))])) rfl rfl (hb hby own_ends_60)) ?_
    show own_Go p e below _ (s₁.setTop (mkF m 61 #[.val (.ref sa), .val (.int (Int32.ofNat (mN + 1))), .val (.ref ap), .val (.int (3 : Int32)), .val (.int (Int32.ofNat (mN + 1 - 3)))] [(.int (P 2)), (.int (S (mN + 1 - 3 + 2)))]))
    by_cases hd2 : (S (mN + 1 - 3 + 2)) = (P 2)
    rotate_left
    · refine own_go (XS.icmpNo X0.here hx rfl (hb hby own_ends_61) rfl (feq hd2).1 (Steps.refl _)) ?_
      show own_Go p e below _ (s₁.setTop (mkF m 64 #[.val (.ref sa), .val (.int (Int32.ofNat (mN + 1))), .val (.ref ap), .val (.int (3 : Int32)), .val (.int (Int32.ofNat (mN + 1 - 3)))] []))
      refine own_go (XS.iconst X0.here hx rfl (hb hby own_ends_64) (Steps.refl _)) ?_
      show own_Go p e below _ (s₁.setTop (mkF m 65 #[.val (.ref sa), .val (.int (Int32.ofNat (mN + 1))), .val (.ref ap), .val (.int (3 : Int32)), .val (.int (Int32.ofNat (mN + 1 - 3)))] [(.int (0 : Int32))]))
      exact own_retZ X0 hx hlk e0 Bd.returns (hb hby own_ends_65) (Or.inl rfl) ⟨congrArg (fun u => some (Value.int u)) (own_b_f (by simp only [own_end, hk, hd0, hd1, hd2, decide_true, decide_false, Bool.and_true, Bool.true_and, Bool.and_false, Bool.false_and, Bool.and_self, Bool.false_eq_true, not_false_eq_true])).symm, rfl, rfl⟩ (by decide) (by decide)
    refine own_go (XS.icmpYes X0.here hx rfl (pc0 := 61) (pc' := 66) rfl (hb hby own_ends_61) rfl (teq hd2).1 (by decide) (by decide) (Steps.refl _)) ?_
    show own_Go p e below _ (s₁.setTop (mkF m 66 #[.val (.ref sa), .val (.int (Int32.ofNat (mN + 1))), .val (.ref ap), .val (.int (3 : Int32)), .val (.int (Int32.ofNat (mN + 1 - 3)))] []))
    refine own_go (XS.iloadN X0.here hx rfl (hb hby own_ends_66) rfl (Steps.refl _)) ?_
    show own_Go p e below _ (s₁.setTop (mkF m 67 #[.val (.ref sa), .val (.int (Int32.ofNat (mN + 1))), .val (.ref ap), .val (.int (3 : Int32)), .val (.int (Int32.ofNat (mN + 1 - 3)))] [(.int (3 : Int32))]))
    refine own_go (XS.iconst X0.here hx rfl (hb hby own_ends_67) (Steps.refl _)) ?_
    show own_Go p e below _ (s₁.setTop (mkF m 68 #[.val (.ref sa), .val (.int (Int32.ofNat (mN + 1))), .val (.ref ap), .val (.int (3 : Int32)), .val (.int (Int32.ofNat (mN + 1 - 3)))] [(.int (3 : Int32)), (.int (3 : Int32))]))
    refine own_go (XS.icmpYes X0.here hx rfl (pc0 := 68) (pc' := 85) rfl (hb hby own_ends_68) rfl (flt (by decide : ¬ ((3 : Int32) < (3 : Int32)))).2.2.2 (by decide) (by decide) (Steps.refl _)) ?_
    show own_Go p e below _ (s₁.setTop (mkF m 85 #[.val (.ref sa), .val (.int (Int32.ofNat (mN + 1))), .val (.ref ap), .val (.int (3 : Int32)), .val (.int (Int32.ofNat (mN + 1 - 3)))] []))
    refine own_go (XS.iconst X0.here hx rfl (hb hby own_ends_85) (Steps.refl _)) ?_
    show own_Go p e below _ (s₁.setTop (mkF m 86 #[.val (.ref sa), .val (.int (Int32.ofNat (mN + 1))), .val (.ref ap), .val (.int (3 : Int32)), .val (.int (Int32.ofNat (mN + 1 - 3)))] [(.int (1 : Int32))]))
    exact own_retZ X0 hx hlk e0 Bd.returns (hb hby own_ends_86) (Or.inr rfl) ⟨congrArg (fun u => some (Value.int u)) (own_b_t (by simp only [own_end, hk, hd0, hd1, hd2, decide_true, decide_false, Bool.and_true, Bool.true_and, Bool.and_false, Bool.false_and, Bool.and_self, Bool.false_eq_true, not_false_eq_true])).symm, rfl, rfl⟩ (by decide) (by decide)
set_option maxRecDepth 65536 in
set_option maxHeartbeats 40000000 in
theorem rm_ends4 (l : Launch) (Z : State) (a0 : Array Value) (hw : ∀ d ∈ tables_1, d.before a0 Z = true) (sa ap : Addr) (ks kp : ClassId) (S P : Nat → Int32) (mN : Nat) (h0 : Heap) (n0 : Nat) (Z0 : n0 ≤ h0.size) (hm : mN ≤ 4) (Vs : Arv Z h0 sa ks .int (5 : Int32) (own_vN S 5) (.int (0 : Int32))) (Vp : Arv Z h0 ap kp .int (4 : Int32) (own_vN P 4) (.int (0 : Int32))) :
    own_Met l Z (⟨"com/example/crossweave/crossweave/soap/OctetPatternNextPinLaw", "ends", "([II[II)Z"⟩ : MethodName) method_4_code 5 (some .boolean) ({ frames := 0, cells := 0, slots := 0, locals := 0 } : Room) #[(.ref sa), (.int (Int32.ofNat (mN + 1))), (.ref ap), (.int (4 : Int32))] h0 (fun v h L => v = some (.int (own_b (own_end S P mN 4 = true))) ∧ L = [] ∧ h = h0) := by
  refine MetFree.of_bodySF (plainFor_of_name own_f1) hisR ?_
  intro p e s m args below meth c s₁ Bd hml0 hP hK
  obtain ⟨rfl, hZ, hh⟩ := hP
  have hx := Bd.exec
  have hby := Bd.bytes
  have hlk : meth.locks = false := Bd.notSynchronized
  have hml : c.maxLocals = 5 := hml0
  have hown : s.vm.findClass "com/example/crossweave/crossweave/soap/OctetPatternNextPinLaw" = some m.cls := findClass_of_methodNamed Bd.named
  have hnm := (name_of_methodNamed Bd.named Bd.method).1
  have X0 : Stand p l e ({ frames := 0, cells := 0, slots := 0, locals := 0 } : Room) s m #[(.ref sa), (.int (Int32.ofNat (mN + 1))), (.ref ap), (.int (4 : Int32))] below meth c s₁ [] 0 0 := Stand.of_body Bd
  have e0 : s₁.heap = h0 := by rw [← hh, Bd.state]; rfl
  show own_Go p e below (own_G s (fun v h L => v = some (.int (own_b (own_end S P mN 4 = true))) ∧ L = [] ∧ h = h0) 0 0) (s₁.setTop (entryFrame m #[(.ref sa), (.int (Int32.ofNat (mN + 1))), (.ref ap), (.int (4 : Int32))] 5))
  rw [own_f4]
  show own_Go p e below _ (s₁.setTop (mkF m 0 #[.val (.ref sa), .val (.int (Int32.ofNat (mN + 1))), .val (.ref ap), .val (.int (4 : Int32)), .unset] []))
  refine own_go (XS.iloadN X0.here hx rfl (hb hby own_ends_0) rfl (Steps.refl _)) ?_
  show own_Go p e below _ (s₁.setTop (mkF m 1 #[.val (.ref sa), .val (.int (Int32.ofNat (mN + 1))), .val (.ref ap), .val (.int (4 : Int32)), .unset] [(.int (4 : Int32))]))
  refine own_go (XS.iloadN X0.here hx rfl (hb hby own_ends_1) rfl (Steps.refl _)) ?_
  show own_Go p e below _ (s₁.setTop (mkF m 2 #[.val (.ref sa), .val (.int (Int32.ofNat (mN + 1))), .val (.ref ap), .val (.int (4 : Int32)), .unset] [(.int (Int32.ofNat (mN + 1))), (.int (4 : Int32))]))
  by_cases hc2 : (Int32.ofNat (mN + 1)) < (4 : Int32)
  · have hk := (own_ltN (i := mN + 1) (j := 4) (by omega) (by omega)).mp hc2
    have hk : ¬ 4 ≤ mN + 1 := by omega
    refine own_go (XS.icmpNo X0.here hx rfl (hb hby own_ends_2) rfl (tlt hc2).2.2.2 (Steps.refl _)) ?_
    show own_Go p e below _ (s₁.setTop (mkF m 5 #[.val (.ref sa), .val (.int (Int32.ofNat (mN + 1))), .val (.ref ap), .val (.int (4 : Int32)), .unset] []))
    refine own_go (XS.iconst X0.here hx rfl (hb hby own_ends_5) (Steps.refl _)) ?_
    show own_Go p e below _ (s₁.setTop (mkF m 6 #[.val (.ref sa), .val (.int (Int32.ofNat (mN + 1))), .val (.ref ap), .val (.int (4 : Int32)), .unset] [(.int (0 : Int32))]))
    exact own_retZ X0 hx hlk e0 Bd.returns (hb hby own_ends_6) (Or.inl rfl) ⟨congrArg (fun u => some (Value.int u)) (own_b_f (by simp only [own_end, hk, decide_false, Bool.false_and, Bool.false_eq_true, not_false_eq_true])).symm, rfl, rfl⟩ (by decide) (by decide)
  · have hk : 4 ≤ mN + 1 := by have q : ¬ mN + 1 < 4 := fun u => hc2 ((own_ltN (i := mN + 1) (j := 4) (by omega) (by omega)).mpr u); omega
    refine own_go (XS.icmpYes X0.here hx rfl (pc0 := 2) (pc' := 7) rfl (hb hby own_ends_2) rfl (flt hc2).2.2.2 (by decide) (by decide) (Steps.refl _)) ?_
    show own_Go p e below _ (s₁.setTop (mkF m 7 #[.val (.ref sa), .val (.int (Int32.ofNat (mN + 1))), .val (.ref ap), .val (.int (4 : Int32)), .unset] []))
    refine own_go (XS.iloadN X0.here hx rfl (hb hby own_ends_7) rfl (Steps.refl _)) ?_
    show own_Go p e below _ (s₁.setTop (mkF m 8 #[.val (.ref sa), .val (.int (Int32.ofNat (mN + 1))), .val (.ref ap), .val (.int (4 : Int32)), .unset] [(.int (Int32.ofNat (mN + 1)))]))
    refine own_go (XS.iloadN X0.here hx rfl (hb hby own_ends_8) rfl (Steps.refl _)) ?_
    show own_Go p e below _ (s₁.setTop (mkF m 9 #[.val (.ref sa), .val (.int (Int32.ofNat (mN + 1))), .val (.ref ap), .val (.int (4 : Int32)), .unset] [(.int (4 : Int32)), (.int (Int32.ofNat (mN + 1)))]))
    refine own_go (XS.isub X0.here hx rfl (hb hby own_ends_9) rfl (Steps.refl _)) ?_
    show own_Go p e below _ (s₁.setTop (mkF m 10 #[.val (.ref sa), .val (.int (Int32.ofNat (mN + 1))), .val (.ref ap), .val (.int (4 : Int32)), .unset] [(.int ((Int32.ofNat (mN + 1)) - (4 : Int32)))]))
    rw [show Int32.ofNat (mN + 1) - (4 : Int32) = Int32.ofNat (mN + 1 - 4) from own_sub (j := 4) hk]
    show own_Go p e below _ (s₁.setTop (mkF m 10 #[.val (.ref sa), .val (.int (Int32.ofNat (mN + 1))), .val (.ref ap), .val (.int (4 : Int32)), .unset] [(.int (Int32.ofNat (mN + 1 - 4)))]))
    refine own_go (XS.istore X0.here hx rfl (hb hby own_ends_10) rfl (l' := #[.val (.ref sa), .val (.int (Int32.ofNat (mN + 1))), .val (.ref ap), .val (.int (4 : Int32)), .val (.int (Int32.ofNat (mN + 1 - 4)))]) rfl (Steps.refl _)) ?_
    show own_Go p e below _ (s₁.setTop (mkF m 12 #[.val (.ref sa), .val (.int (Int32.ofNat (mN + 1))), .val (.ref ap), .val (.int (4 : Int32)), .val (.int (Int32.ofNat (mN + 1 - 4)))] []))
    refine own_go (XS.iloadN X0.here hx rfl (hb hby own_ends_12) rfl (Steps.refl _)) ?_
    show own_Go p e below _ (s₁.setTop (mkF m 13 #[.val (.ref sa), .val (.int (Int32.ofNat (mN + 1))), .val (.ref ap), .val (.int (4 : Int32)), .val (.int (Int32.ofNat (mN + 1 - 4)))] [(.int (4 : Int32))]))
    refine own_go (XS.ifNo X0.here hx rfl (hb hby own_ends_13) rfl ((if0 _ _).trans (tlt (by decide : ((0 : Int32) < (4 : Int32)))).2.2.2) (Steps.refl _)) ?_
    show own_Go p e below _ (s₁.setTop (mkF m 16 #[.val (.ref sa), .val (.int (Int32.ofNat (mN + 1))), .val (.ref ap), .val (.int (4 : Int32)), .val (.int (Int32.ofNat (mN + 1 - 4)))] []))
    refine own_go (XS.aloadN X0.here hx rfl (hb hby own_ends_16) rfl rfl (Steps.refl _)) ?_
    show own_Go p e below _ (s₁.setTop (mkF m 17 #[.val (.ref sa), .val (.int (Int32.ofNat (mN + 1))), .val (.ref ap), .val (.int (4 : Int32)), .val (.int (Int32.ofNat (mN + 1 - 4)))] [(.ref sa)]))
    refine own_go (XS.iload X0.here hx rfl (hb hby own_ends_17) rfl (Steps.refl _)) ?_
    show own_Go p e below _ (s₁.setTop (mkF m 19 #[.val (.ref sa), .val (.int (Int32.ofNat (mN + 1))), .val (.ref ap), .val (.int (4 : Int32)), .val (.int (Int32.ofNat (mN + 1 - 4)))] [(.int (Int32.ofNat (mN + 1 - 4))), (.ref sa)]))
    refine own_go (own_ldI X0 hx hZ e0 Vs (own_i0 (by omega)) ((own_ltN (j := 5) (by omega) (by omega)).mpr (by omega)) (v := (S (mN + 1 - 4))) (own_getN S (n := 5) (by omega) (by omega)) (g := (mkF m 19 #[.val (.ref sa), .val (.int (Int32.ofNat (mN + 1))), .val (.ref ap), .val (.int (4 : Int32)), .val (.int (Int32.ofNat (mN + 1 - 4)))] [(.int (Int32.ofNat (mN + 1 - 4))), (.ref sa)])) rfl rfl (hb hby own_ends_19)) ?_
    show own_Go p e below _ (s₁.setTop (mkF m 20 #[.val (.ref sa), .val (.int (Int32.ofNat (mN + 1))), .val (.ref ap), .val (.int (4 : Int32)), .val (.int (Int32.ofNat (mN + 1 - 4)))] [(.int (S (mN + 1 - 4)))]))
    refine own_go (XS.aloadN X0.here hx rfl (hb hby own_ends_20) rfl rfl (Steps.refl _)) ?_
    show own_Go p e below _ (s₁.setTop (mkF m 21 #[.val (.ref sa), .val (.int (Int32.ofNat (mN + 1))), .val (.ref ap), .val (.int (4 : Int32)), .val (.int (Int32.ofNat (mN + 1 - 4)))] [(.ref ap), (.int (S (mN + 1 - 4)))]))
    refine own_go (XS.iconst X0.here hx rfl (hb hby own_ends_21) (Steps.refl _)) ?_
    show own_Go p e below _ (s₁.setTop (mkF m 22 #[.val (.ref sa), .val (.int (Int32.ofNat (mN + 1))), .val (.ref ap), .val (.int (4 : Int32)), .val (.int (Int32.ofNat (mN + 1 - 4)))] [(.int (0 : Int32)), (.ref ap), (.int (S (mN + 1 - 4)))]))
    refine own_go (own_ldI X0 hx hZ e0 Vp (by decide) (by decide) (v := (P 0)) rfl (g := (mkF m 22 #[.val (.ref sa), .val (.int (Int32.ofNat (mN + 1))), .val (.ref ap), .val (.int (4 : Int32)), .val (.int (Int32.ofNat (mN + 1 - 4)))] [(.int (0 : Int32)), (.ref ap), (.int (S (mN + 1 - 4)))])) rfl rfl (hb hby own_ends_22)) ?_
    show own_Go p e below _ (s₁.setTop (mkF m 23 #[.val (.ref sa), .val (.int (Int32.ofNat (mN + 1))), .val (.ref ap), .val (.int (4 : Int32)), .val (.int (Int32.ofNat (mN + 1 - 4)))] [(.int (P 0)), (.int (S (mN + 1 - 4)))]))
    by_cases hd0 : (S (mN + 1 - 4)) = (P 0)
    rotate_left
    · refine own_go (XS.icmpNo X0.here hx rfl (hb hby own_ends_23) rfl (feq hd0).1 (Steps.refl _)) ?_
      show own_Go p e below _ (s₁.setTop (mkF m 26 #[.val (.ref sa), .val (.int (Int32.ofNat (mN + 1))), .val (.ref ap), .val (.int (4 : Int32)), .val (.int (Int32.ofNat (mN + 1 - 4)))] []))
      refine own_go (XS.iconst X0.here hx rfl (hb hby own_ends_26) (Steps.refl _)) ?_
      show own_Go p e below _ (s₁.setTop (mkF m 27 #[.val (.ref sa), .val (.int (Int32.ofNat (mN + 1))), .val (.ref ap), .val (.int (4 : Int32)), .val (.int (Int32.ofNat (mN + 1 - 4)))] [(.int (0 : Int32))]))
      exact own_retZ X0 hx hlk e0 Bd.returns (hb hby own_ends_27) (Or.inl rfl) ⟨congrArg (fun u => some (Value.int u)) (own_b_f (by simp only [own_end, hk, hd0, decide_true, decide_false, Bool.and_true, Bool.true_and, Bool.and_false, Bool.false_and, Bool.and_self, Bool.false_eq_true, not_false_eq_true])).symm, rfl, rfl⟩ (by decide) (by decide)
    refine own_go (XS.icmpYes X0.here hx rfl (pc0 := 23) (pc' := 28) rfl (hb hby own_ends_23) rfl (teq hd0).1 (by decide) (by decide) (Steps.refl _)) ?_
    show own_Go p e below _ (s₁.setTop (mkF m 28 #[.val (.ref sa), .val (.int (Int32.ofNat (mN + 1))), .val (.ref ap), .val (.int (4 : Int32)), .val (.int (Int32.ofNat (mN + 1 - 4)))] []))
    refine own_go (XS.iloadN X0.here hx rfl (hb hby own_ends_28) rfl (Steps.refl _)) ?_
    show own_Go p e below _ (s₁.setTop (mkF m 29 #[.val (.ref sa), .val (.int (Int32.ofNat (mN + 1))), .val (.ref ap), .val (.int (4 : Int32)), .val (.int (Int32.ofNat (mN + 1 - 4)))] [(.int (4 : Int32))]))
    refine own_go (XS.iconst X0.here hx rfl (hb hby own_ends_29) (Steps.refl _)) ?_
    show own_Go p e below _ (s₁.setTop (mkF m 30 #[.val (.ref sa), .val (.int (Int32.ofNat (mN + 1))), .val (.ref ap), .val (.int (4 : Int32)), .val (.int (Int32.ofNat (mN + 1 - 4)))] [(.int (1 : Int32)), (.int (4 : Int32))]))
    refine own_go (XS.icmpNo X0.here hx rfl (hb hby own_ends_30) rfl (tlt (by decide : ((1 : Int32) < (4 : Int32)))).2.2.2 (Steps.refl _)) ?_
    show own_Go p e below _ (s₁.setTop (mkF m 33 #[.val (.ref sa), .val (.int (Int32.ofNat (mN + 1))), .val (.ref ap), .val (.int (4 : Int32)), .val (.int (Int32.ofNat (mN + 1 - 4)))] []))
    refine own_go (XS.aloadN X0.here hx rfl (hb hby own_ends_33) rfl rfl (Steps.refl _)) ?_
    show own_Go p e below _ (s₁.setTop (mkF m 34 #[.val (.ref sa), .val (.int (Int32.ofNat (mN + 1))), .val (.ref ap), .val (.int (4 : Int32)), .val (.int (Int32.ofNat (mN + 1 - 4)))] [(.ref sa)]))
    refine own_go (XS.iload X0.here hx rfl (hb hby own_ends_34) rfl (Steps.refl _)) ?_
    show own_Go p e below _ (s₁.setTop (mkF m 36 #[.val (.ref sa), .val (.int (Int32.ofNat (mN + 1))), .val (.ref ap), .val (.int (4 : Int32)), .val (.int (Int32.ofNat (mN + 1 - 4)))] [(.int (Int32.ofNat (mN + 1 - 4))), (.ref sa)]))
    refine own_go (XS.iconst X0.here hx rfl (hb hby own_ends_36) (Steps.refl _)) ?_
    show own_Go p e below _ (s₁.setTop (mkF m 37 #[.val (.ref sa), .val (.int (Int32.ofNat (mN + 1))), .val (.ref ap), .val (.int (4 : Int32)), .val (.int (Int32.ofNat (mN + 1 - 4)))] [(.int (1 : Int32)), (.int (Int32.ofNat (mN + 1 - 4))), (.ref sa)]))
    refine own_go (XS.iadd X0.here hx rfl (hb hby own_ends_37) rfl (Steps.refl _)) ?_
    show own_Go p e below _ (s₁.setTop (mkF m 38 #[.val (.ref sa), .val (.int (Int32.ofNat (mN + 1))), .val (.ref ap), .val (.int (4 : Int32)), .val (.int (Int32.ofNat (mN + 1 - 4)))] [(.int ((Int32.ofNat (mN + 1 - 4)) + (1 : Int32))), (.ref sa)]))
    rw [show Int32.ofNat (mN + 1 - 4) + (1 : Int32) = Int32.ofNat (mN + 1 - 4 + 1) from own_add _ 1]
    show own_Go p e below _ (s₁.setTop (mkF m 38 #[.val (.ref sa), .val (.int (Int32.ofNat (mN + 1))), .val (.ref ap), .val (.int (4 : Int32)), .val (.int (Int32.ofNat (mN + 1 - 4)))] [(.int (Int32.ofNat (mN + 1 - 4 + 1))), (.ref sa)]))
    refine own_go (own_ldI X0 hx hZ e0 Vs (own_i0 (by omega)) ((own_ltN (j := 5) (by omega) (by omega)).mpr (by omega)) (v := (S (mN + 1 - 4 + 1))) (own_getN S (n := 5) (by omega) (by omega)) (g := (mkF m 38 #[.val (.ref sa), .val (.int (Int32.ofNat (mN + 1))), .val (.ref ap), .val (.int (4 : Int32)), .val (.int (Int32.ofNat (mN + 1 - 4)))] [(.int (Int32.ofNat (mN + 1 - 4 + 1))), (.ref sa)])) rfl rfl (hb hby own_ends_38)) ?_
    show own_Go p e below _ (s₁.setTop (mkF m 39 #[.val (.ref sa), .val (.int (Int32.ofNat (mN + 1))), .val (.ref ap), .val (.int (4 : Int32)), .val (.int (Int32.ofNat (mN + 1 - 4)))] [(.int (S (mN + 1 - 4 + 1)))]))
    refine own_go (XS.aloadN X0.here hx rfl (hb hby own_ends_39) rfl rfl (Steps.refl _)) ?_
    show own_Go p e below _ (s₁.setTop (mkF m 40 #[.val (.ref sa), .val (.int (Int32.ofNat (mN + 1))), .val (.ref ap), .val (.int (4 : Int32)), .val (.int (Int32.ofNat (mN + 1 - 4)))] [(.ref ap), (.int (S (mN + 1 - 4 + 1)))]))
    refine own_go (XS.iconst X0.here hx rfl (hb hby own_ends_40) (Steps.refl _)) ?_
    show own_Go p e below _ (s₁.setTop (mkF m 41 #[.val (.ref sa), .val (.int (Int32.ofNat (mN + 1))), .val (.ref ap), .val (.int (4 : Int32)), .val (.int (Int32.ofNat (mN + 1 - 4)))] [(.int (1 : Int32)), (.ref ap), (.int (S (mN + 1 - 4 + 1)))]))
    refine own_go (own_ldI X0 hx hZ e0 Vp (by decide) (by decide) (v := (P 1)) rfl (g := (mkF m 41 #[.val (.ref sa), .val (.int (Int32.ofNat (mN + 1))), .val (.ref ap), .val (.int (4 : Int32)), .val (.int (Int32.ofNat (mN + 1 - 4)))] [(.int (1 : Int32)), (.ref ap), (.int (S (mN + 1 - 4 + 1)))])) rfl rfl (hb hby own_ends_41)) ?_
    show own_Go p e below _ (s₁.setTop (mkF m 42 #[.val (.ref sa), .val (.int (Int32.ofNat (mN + 1))), .val (.ref ap), .val (.int (4 : Int32)), .val (.int (Int32.ofNat (mN + 1 - 4)))] [(.int (P 1)), (.int (S (mN + 1 - 4 + 1)))]))
    by_cases hd1 : (S (mN + 1 - 4 + 1)) = (P 1)
    rotate_left
    · refine own_go (XS.icmpNo X0.here hx rfl (hb hby own_ends_42) rfl (feq hd1).1 (Steps.refl _)) ?_
      show own_Go p e below _ (s₁.setTop (mkF m 45 #[.val (.ref sa), .val (.int (Int32.ofNat (mN + 1))), .val (.ref ap), .val (.int (4 : Int32)), .val (.int (Int32.ofNat (mN + 1 - 4)))] []))
      refine own_go (XS.iconst X0.here hx rfl (hb hby own_ends_45) (Steps.refl _)) ?_
      show own_Go p e below _ (s₁.setTop (mkF m 46 #[.val (.ref sa), .val (.int (Int32.ofNat (mN + 1))), .val (.ref ap), .val (.int (4 : Int32)), .val (.int (Int32.ofNat (mN + 1 - 4)))] [(.int (0 : Int32))]))
      exact own_retZ X0 hx hlk e0 Bd.returns (hb hby own_ends_46) (Or.inl rfl) ⟨congrArg (fun u => some (Value.int u)) (own_b_f (by simp only [own_end, hk, hd0, hd1, decide_true, decide_false, Bool.and_true, Bool.true_and, Bool.and_false, Bool.false_and, Bool.and_self, Bool.false_eq_true, not_false_eq_true])).symm, rfl, rfl⟩ (by decide) (by decide)
    refine own_go (XS.icmpYes X0.here hx rfl (pc0 := 42) (pc' := 47) rfl (hb hby own_ends_42) rfl (teq hd1).1 (by decide) (by decide) (Steps.refl _)) ?_
    show own_Go p e below _ (s₁.setTop (mkF m 47 #[.val (.ref sa), .val (.int (Int32.ofNat (mN + 1))), .val (.ref ap), .val (.int (4 : Int32)), .val (.int (Int32.ofNat (mN + 1 - 4)))] []))
    refine own_go (XS.iloadN X0.here hx rfl (hb hby own_ends_47) rfl (Steps.refl _)) ?_
    show own_Go p e below _ (s₁.setTop (mkF m 48 #[.val (.ref sa), .val (.int (Int32.ofNat (mN + 1))), .val (.ref ap), .val (.int (4 : Int32)), .val (.int (Int32.ofNat (mN + 1 - 4)))] [(.int (4 : Int32))]))
    refine own_go (XS.iconst X0.here hx rfl (hb hby own_ends_48) (Steps.refl _)) ?_
    show own_Go p e below _ (s₁.setTop (mkF m 49 #[.val (.ref sa), .val (.int (Int32.ofNat (mN + 1))), .val (.ref ap), .val (.int (4 : Int32)), .val (.int (Int32.ofNat (mN + 1 - 4)))] [(.int (2 : Int32)), (.int (4 : Int32))]))
    refine own_go (XS.icmpNo X0.here hx rfl (hb hby own_ends_49) rfl (tlt (by decide : ((2 : Int32) < (4 : Int32)))).2.2.2 (Steps.refl _)) ?_
    show own_Go p e below _ (s₁.setTop (mkF m 52 #[.val (.ref sa), .val (.int (Int32.ofNat (mN + 1))), .val (.ref ap), .val (.int (4 : Int32)), .val (.int (Int32.ofNat (mN + 1 - 4)))] []))
    refine own_go (XS.aloadN X0.here hx rfl (hb hby own_ends_52) rfl rfl (Steps.refl _)) ?_
    show own_Go p e below _ (s₁.setTop (mkF m 53 #[.val (.ref sa), .val (.int (Int32.ofNat (mN + 1))), .val (.ref ap), .val (.int (4 : Int32)), .val (.int (Int32.ofNat (mN + 1 - 4)))] [(.ref sa)]))
    refine own_go (XS.iload X0.here hx rfl (hb hby own_ends_53) rfl (Steps.refl _)) ?_
    show own_Go p e below _ (s₁.setTop (mkF m 55 #[.val (.ref sa), .val (.int (Int32.ofNat (mN + 1))), .val (.ref ap), .val (.int (4 : Int32)), .val (.int (Int32.ofNat (mN + 1 - 4)))] [(.int (Int32.ofNat (mN + 1 - 4))), (.ref sa)]))
    refine own_go (XS.iconst X0.here hx rfl (hb hby own_ends_55) (Steps.refl _)) ?_
    show own_Go p e below _ (s₁.setTop (mkF m 56 #[.val (.ref sa), .val (.int (Int32.ofNat (mN + 1))), .val (.ref ap), .val (.int (4 : Int32)), .val (.int (Int32.ofNat (mN + 1 - 4)))] [(.int (2 : Int32)), (.int (Int32.ofNat (mN + 1 - 4))), (.ref sa)]))
    refine own_go (XS.iadd X0.here hx rfl (hb hby own_ends_56) rfl (Steps.refl _)) ?_
    show own_Go p e below _ (s₁.setTop (mkF m 57 #[.val (.ref sa), .val (.int (Int32.ofNat (mN + 1))), .val (.ref ap), .val (.int (4 : Int32)), .val (.int (Int32.ofNat (mN + 1 - 4)))] [(.int ((Int32.ofNat (mN + 1 - 4)) + (2 : Int32))), (.ref sa)]))
    rw [show Int32.ofNat (mN + 1 - 4) + (2 : Int32) = Int32.ofNat (mN + 1 - 4 + 2) from own_add _ 2]
    show own_Go p e below _ (s₁.setTop (mkF m 57 #[.val (.ref sa), .val (.int (Int32.ofNat (mN + 1))), .val (.ref ap), .val (.int (4 : Int32)), .val (.int (Int32.ofNat (mN + 1 - 4)))] [(.int (Int32.ofNat (mN + 1 - 4 + 2))), (.ref sa)]))
    refine own_go (own_ldI X0 hx hZ e0 Vs (own_i0 (by omega)) ((own_ltN (j := 5) (by omega) (by omega)).mpr (by omega)) (v := (S (mN + 1 - 4 + 2))) (own_getN S (n := 5) (by omega) (by omega)) (g := (mkF m 57 #[.val (.ref sa), .val (.int (Int32.ofNat (mN + 1))), .val (.ref ap), .val (.int (4 : Int32)), .val (.int (Int32.ofNat (mN + 1 - 4)))] [(.int (Int32.ofNat (mN + 1 - 4 + 2))), (.ref sa)])) rfl rfl (hb hby own_ends_57)) ?_
    show own_Go p e below _ (s₁.setTop (mkF m 58 #[.val (.ref sa), .val (.int (Int32.ofNat (mN + 1))), .val (.ref ap), .val (.int (4 : Int32)), .val (.int (Int32.ofNat (mN + 1 - 4)))] [(.int (S (mN + 1 - 4 + 2)))]))
    refine own_go (XS.aloadN X0.here hx rfl (hb hby own_ends_58) rfl rfl (Steps.refl _)) ?_
    show own_Go p e below _ (s₁.setTop (mkF m 59 #[.val (.ref sa), .val (.int (Int32.ofNat (mN + 1))), .val (.ref ap), .val (.int (4 : Int32)), .val (.int (Int32.ofNat (mN + 1 - 4)))] [(.ref ap), (.int (S (mN + 1 - 4 + 2)))]))
    refine own_go (XS.iconst X0.here hx rfl (hb hby own_ends_59) (Steps.refl _)) ?_
    show own_Go p e below _ (s₁.setTop (mkF m 60 #[.val (.ref sa), .val (.int (Int32.ofNat (mN + 1))), .val (.ref ap), .val (.int (4 : Int32)), .val (.int (Int32.ofNat (mN + 1 - 4)))] [(.int (2 : Int32)), (.ref ap), (.int (S (mN + 1 - 4 + 2)))]))
    refine own_go (own_ldI X0 hx hZ e0 Vp (by decide) (by decide) (v := (P 2)) rfl (g := (mkF m 60 #[.val (.ref sa), .val (.int (Int32.ofNat (mN + 1))), .val (.ref ap), .val (.int (4 : Int32)), .val (.int (Int32.ofNat (mN + 1 - 4)))] [(.int (2 : Int32)), (.ref ap), (.int (S (mN + 1 - 4 + 2)))])) rfl rfl (hb hby own_ends_60)) ?_
    show own_Go p e below _ (s₁.setTop (mkF m 61 #[.val (.ref sa), .val (.int (Int32.ofNat (mN + 1))), .val (.ref ap), .val (.int (4 : Int32)), .val (.int (Int32.ofNat (mN + 1 - 4)))] [(.int (P 2)), (.int (S (mN + 1 - 4 + 2)))]))
    by_cases hd2 : (S (mN + 1 - 4 + 2)) = (P 2)
    rotate_left
    · refine own_go (XS.icmpNo X0.here hx rfl (hb hby own_ends_61) rfl (feq hd2).1 (Steps.refl _)) ?_
      show own_Go p e below _ (s₁.setTop (mkF m 64 #[.val (.ref sa), .val (.int (Int32.ofNat (mN + 1))), .val (.ref ap), .val (.int (4 : Int32)), .val (.int (Int32.ofNat (mN + 1 - 4)))] []))
      refine own_go (XS.iconst X0.here hx rfl (hb hby own_ends_64) (Steps.refl _)) ?_
      show own_Go p e below _ (s₁.setTop (mkF m 65 #[.val (.ref sa), .val (.int (Int32.ofNat (mN + 1))), .val (.ref ap), .val (.int (4 : Int32)), .val (.int (Int32.ofNat (mN + 1 - 4)))] [(.int (0 : Int32))]))
      exact own_retZ X0 hx hlk e0 Bd.returns (hb hby own_ends_65) (Or.inl rfl) ⟨congrArg (fun u => some (Value.int u)) (own_b_f (by simp only [own_end, hk, hd0, hd1, hd2, decide_true, decide_false, Bool.and_true, Bool.true_and, Bool.and_false, Bool.false_and, Bool.and_self, Bool.false_eq_true, not_false_eq_true])).symm, rfl, rfl⟩ (by decide) (by decide)
    refine own_go (XS.icmpYes X0.here hx rfl (pc0 := 61) (pc' := 66) rfl (hb hby own_ends_61) rfl (teq hd2).1 (by decide) (by decide) (Steps.refl _)) ?_
    show own_Go p e below _ (s₁.setTop (mkF m 66 #[.val (.ref sa), .val (.int (Int32.ofNat (mN + 1))), .val (.ref ap), .val (.int (4 : Int32)), .val (.int (Int32.ofNat (mN + 1 - 4)))] []))
    refine own_go (XS.iloadN X0.here hx rfl (hb hby own_ends_66) rfl (Steps.refl _)) ?_
    show own_Go p e below _ (s₁.setTop (mkF m 67 #[.val (.ref sa), .val (.int (Int32.ofNat (mN + 1))), .val (.ref ap), .val (.int (4 : Int32)), .val (.int (Int32.ofNat (mN + 1 - 4)))] [(.int (4 : Int32))]))
    refine own_go (XS.iconst X0.here hx rfl (hb hby own_ends_67) (Steps.refl _)) ?_
    show own_Go p e below _ (s₁.setTop (mkF m 68 #[.val (.ref sa), .val (.int (Int32.ofNat (mN + 1))), .val (.ref ap), .val (.int (4 : Int32)), .val (.int (Int32.ofNat (mN + 1 - 4)))] [(.int (3 : Int32)), (.int (4 : Int32))]))
    refine own_go (XS.icmpNo X0.here hx rfl (hb hby own_ends_68) rfl (tlt (by decide : ((3 : Int32) < (4 : Int32)))).2.2.2 (Steps.refl _)) ?_
    show own_Go p e below _ (s₁.setTop (mkF m 71 #[.val (.ref sa), .val (.int (Int32.ofNat (mN + 1))), .val (.ref ap), .val (.int (4 : Int32)), .val (.int (Int32.ofNat (mN + 1 - 4)))] []))
    refine own_go (XS.aloadN X0.here hx rfl (hb hby own_ends_71) rfl rfl (Steps.refl _)) ?_
    show own_Go p e below _ (s₁.setTop (mkF m 72 #[.val (.ref sa), .val (.int (Int32.ofNat (mN + 1))), .val (.ref ap), .val (.int (4 : Int32)), .val (.int (Int32.ofNat (mN + 1 - 4)))] [(.ref sa)]))
    refine own_go (XS.iload X0.here hx rfl (hb hby own_ends_72) rfl (Steps.refl _)) ?_
    show own_Go p e below _ (s₁.setTop (mkF m 74 #[.val (.ref sa), .val (.int (Int32.ofNat (mN + 1))), .val (.ref ap), .val (.int (4 : Int32)), .val (.int (Int32.ofNat (mN + 1 - 4)))] [(.int (Int32.ofNat (mN + 1 - 4))), (.ref sa)]))
    refine own_go (XS.iconst X0.here hx rfl (hb hby own_ends_74) (Steps.refl _)) ?_
    show own_Go p e below _ (s₁.setTop (mkF m 75 #[.val (.ref sa), .val (.int (Int32.ofNat (mN + 1))), .val (.ref ap), .val (.int (4 : Int32)), .val (.int (Int32.ofNat (mN + 1 - 4)))] [(.int (3 : Int32)), (.int (Int32.ofNat (mN + 1 - 4))), (.ref sa)]))
    refine own_go (XS.iadd X0.here hx rfl (hb hby own_ends_75) rfl (Steps.refl _)) ?_
    show own_Go p e below _ (s₁.setTop (mkF m 76 #[.val (.ref sa), .val (.int (Int32.ofNat (mN + 1))), .val (.ref ap), .val (.int (4 : Int32)), .val (.int (Int32.ofNat (mN + 1 - 4)))] [(.int ((Int32.ofNat (mN + 1 - 4)) + (3 : Int32))), (.ref sa)]))
    rw [show Int32.ofNat (mN + 1 - 4) + (3 : Int32) = Int32.ofNat (mN + 1 - 4 + 3) from own_add _ 3]
    show own_Go p e below _ (s₁.setTop (mkF m 76 #[.val (.ref sa), .val (.int (Int32.ofNat (mN + 1))), .val (.ref ap), .val (.int (4 : Int32)), .val (.int (Int32.ofNat (mN + 1 - 4)))] [(.int (Int32.ofNat (mN + 1 - 4 + 3))), (.ref sa)]))
    refine own_go (own_ldI X0 hx hZ e0 Vs (own_i0 (by omega)) ((own_ltN (j := 5) (by omega) (by omega)).mpr (by omega)) (v := (S (mN + 1 - 4 + 3))) (own_getN S (n := 5) (by omega) (by omega)) (g := (mkF m 76 #[.val (.ref sa), .val (.int (Int32.ofNat (mN + 1))), .val (.ref ap), .val (.int (4 : Int32)), .val (.int (Int32.ofNat (mN + 1 - 4)))] [(.int (Int32.ofNat (mN + 1 - 4 + 3))), (.ref sa)])) rfl rfl (hb hby own_ends_76)) ?_
    show own_Go p e below _ (s₁.setTop (mkF m 77 #[.val (.ref sa), .val (.int (Int32.ofNat (mN + 1))), .val (.ref ap), .val (.int (4 : Int32)), .val (.int (Int32.ofNat (mN + 1 - 4)))] [(.int (S (mN + 1 - 4 + 3)))]))
    refine own_go (XS.aloadN X0.here hx rfl (hb hby own_ends_77) rfl rfl (Steps.refl _)) ?_
    show own_Go p e below _ (s₁.setTop (mkF m 78 #[.val (.ref sa), .val (.int (Int32.ofNat (mN + 1))), .val (.ref ap), .val (.int (4 : Int32)), .val (.int (Int32.ofNat (mN + 1 - 4)))] [(.ref ap), (.int (S (mN + 1 - 4 + 3)))]))
    refine own_go (XS.iconst X0.here hx rfl (hb hby own_ends_78) (Steps.refl _)) ?_
    show own_Go p e below _ (s₁.setTop (mkF m 79 #[.val (.ref sa), .val (.int (Int32.ofNat (mN + 1))), .val (.ref ap), .val (.int (4 : Int32)), .val (.int (Int32.ofNat (mN + 1 - 4)))] [(.int (3 : Int32)), (.ref ap), (.int (S (mN + 1 - 4 + 3)))]))
    refine own_go (own_ldI X0 hx hZ e0 Vp (by decide) (by decide) (v := (P 3)) rfl (g := (mkF m 79 #[.val (.ref sa), .val (.int (Int32.ofNat (mN + 1))), .val (.ref ap), .val (.int (4 : Int32)), .val (.int (Int32.ofNat (mN + 1 - 4)))] [(.int (3 : Int32)), (.ref ap), (.int (S (mN + 1 - 4 + 3)))])) rfl rfl (hb hby own_ends_79)) ?_
    show own_Go p e below _ (s₁.setTop (mkF m 80 #[.val (.ref sa), .val (.int (Int32.ofNat (mN + 1))), .val (.ref ap), .val (.int (4 : Int32)), .val (.int (Int32.ofNat (mN + 1 - 4)))] [(.int (P 3)), (.int (S (mN + 1 - 4 + 3)))]))
    by_cases hd3 : (S (mN + 1 - 4 + 3)) = (P 3)
    rotate_left
    · refine own_go (XS.icmpNo X0.here hx rfl (hb hby own_ends_80) rfl (feq hd3).1 (Steps.refl _)) ?_
      show own_Go p e below _ (s₁.setTop (mkF m 83 #[.val (.ref sa), .val (.int (Int32.ofNat (mN + 1))), .val (.ref ap), .val (.int (4 : Int32)), .val (.int (Int32.ofNat (mN + 1 - 4)))] []))
      refine own_go (XS.iconst X0.here hx rfl (hb hby own_ends_83) (Steps.refl _)) ?_
      show own_Go p e below _ (s₁.setTop (mkF m 84 #[.val (.ref sa), .val (.int (Int32.ofNat (mN + 1))), .val (.ref ap), .val (.int (4 : Int32)), .val (.int (Int32.ofNat (mN + 1 - 4)))] [(.int (0 : Int32))]))
      exact own_retZ X0 hx hlk e0 Bd.returns (hb hby own_ends_84) (Or.inl rfl) ⟨congrArg (fun u => some (Value.int u)) (own_b_f (by simp only [own_end, hk, hd0, hd1, hd2, hd3, decide_true, decide_false, Bool.and_true, Bool.true_and, Bool.and_false, Bool.false_and, Bool.and_self, Bool.false_eq_true, not_false_eq_true])).symm, rfl, rfl⟩ (by decide) (by decide)
    refine own_go (XS.icmpYes X0.here hx rfl (pc0 := 80) (pc' := 85) rfl (hb hby own_ends_80) rfl (teq hd3).1 (by decide) (by decide) (Steps.refl _)) ?_
    show own_Go p e below _ (s₁.setTop (mkF m 85 #[.val (.ref sa), .val (.int (Int32.ofNat (mN + 1))), .val (.ref ap), .val (.int (4 : Int32)), .val (.int (Int32.ofNat (mN + 1 - 4)))] []))
    refine own_go (XS.iconst X0.here hx rfl (hb hby own_ends_85) (Steps.refl _)) ?_
    show own_Go p e below _ (s₁.setTop (mkF m 86 #[.val (.ref sa), .val (.int (Int32.ofNat (mN + 1))), .val (.ref ap), .val (.int (4 : Int32)), .val (.int (Int32.ofNat (mN + 1 - 4)))] [(.int (1 : Int32))]))
    exact own_retZ X0 hx hlk e0 Bd.returns (hb hby own_ends_86) (Or.inr rfl) ⟨congrArg (fun u => some (Value.int u)) (own_b_t (by simp only [own_end, hk, hd0, hd1, hd2, hd3, decide_true, decide_false, Bool.and_true, Bool.true_and, Bool.and_false, Bool.false_and, Bool.and_self, Bool.false_eq_true, not_false_eq_true])).symm, rfl, rfl⟩ (by decide) (by decide)
theorem own_pattern_0 : decode method_2_code 0 = .ok (.iload_n 0, 1) := by decide +kernel
theorem own_pattern_1 : decode method_2_code 1 = .ok (.i2b, 1) := by decide +kernel
theorem own_pattern_2 : decode method_2_code 2 = .ok (.istore_n 2, 1) := by decide +kernel
theorem own_pattern_3 : decode method_2_code 3 = .ok (.iload_n 0, 1) := by decide +kernel
theorem own_pattern_4 : decode method_2_code 4 = .ok (.bipush 8, 2) := by decide +kernel
theorem own_pattern_6 : decode method_2_code 6 = .ok (.iushr, 1) := by decide +kernel
theorem own_pattern_7 : decode method_2_code 7 = .ok (.i2b, 1) := by decide +kernel
theorem own_pattern_8 : decode method_2_code 8 = .ok (.istore_n 3, 1) := by decide +kernel
theorem own_pattern_9 : decode method_2_code 9 = .ok (.iload_n 0, 1) := by decide +kernel
theorem own_pattern_10 : decode method_2_code 10 = .ok (.bipush 16, 2) := by decide +kernel
theorem own_pattern_12 : decode method_2_code 12 = .ok (.iushr, 1) := by decide +kernel
theorem own_pattern_13 : decode method_2_code 13 = .ok (.i2b, 1) := by decide +kernel
theorem own_pattern_14 : decode method_2_code 14 = .ok (.istore 4, 2) := by decide +kernel
theorem own_pattern_16 : decode method_2_code 16 = .ok (.iload_n 0, 1) := by decide +kernel
theorem own_pattern_17 : decode method_2_code 17 = .ok (.bipush 24, 2) := by decide +kernel
theorem own_pattern_19 : decode method_2_code 19 = .ok (.iushr, 1) := by decide +kernel
theorem own_pattern_20 : decode method_2_code 20 = .ok (.i2b, 1) := by decide +kernel
theorem own_pattern_21 : decode method_2_code 21 = .ok (.istore 5, 2) := by decide +kernel
theorem own_pattern_23 : decode method_2_code 23 = .ok (.iload_n 1, 1) := by decide +kernel
theorem own_pattern_24 : decode method_2_code 24 = .ok (.iconst 1, 1) := by decide +kernel
theorem own_pattern_25 : decode method_2_code 25 = .ok (.if_icmp .ne 11, 3) := by decide +kernel
theorem own_pattern_28 : decode method_2_code 28 = .ok (.iconst 1, 1) := by decide +kernel
theorem own_pattern_29 : decode method_2_code 29 = .ok (.newarray .byte, 2) := by decide +kernel
theorem own_pattern_31 : decode method_2_code 31 = .ok (.dup, 1) := by decide +kernel
theorem own_pattern_32 : decode method_2_code 32 = .ok (.iconst 0, 1) := by decide +kernel
theorem own_pattern_33 : decode method_2_code 33 = .ok (.iload_n 2, 1) := by decide +kernel
theorem own_pattern_34 : decode method_2_code 34 = .ok (.bastore, 1) := by decide +kernel
theorem own_pattern_35 : decode method_2_code 35 = .ok (.areturn, 1) := by decide +kernel
theorem own_pattern_36 : decode method_2_code 36 = .ok (.iload_n 1, 1) := by decide +kernel
theorem own_pattern_37 : decode method_2_code 37 = .ok (.iconst 2, 1) := by decide +kernel
theorem own_pattern_38 : decode method_2_code 38 = .ok (.if_icmp .ne 15, 3) := by decide +kernel
theorem own_pattern_41 : decode method_2_code 41 = .ok (.iconst 2, 1) := by decide +kernel
theorem own_pattern_42 : decode method_2_code 42 = .ok (.newarray .byte, 2) := by decide +kernel
theorem own_pattern_44 : decode method_2_code 44 = .ok (.dup, 1) := by decide +kernel
theorem own_pattern_45 : decode method_2_code 45 = .ok (.iconst 0, 1) := by decide +kernel
theorem own_pattern_46 : decode method_2_code 46 = .ok (.iload_n 2, 1) := by decide +kernel
theorem own_pattern_47 : decode method_2_code 47 = .ok (.bastore, 1) := by decide +kernel
theorem own_pattern_48 : decode method_2_code 48 = .ok (.dup, 1) := by decide +kernel
theorem own_pattern_49 : decode method_2_code 49 = .ok (.iconst 1, 1) := by decide +kernel
theorem own_pattern_50 : decode method_2_code 50 = .ok (.iload_n 3, 1) := by decide +kernel
theorem own_pattern_51 : decode method_2_code 51 = .ok (.bastore, 1) := by decide +kernel
theorem own_pattern_52 : decode method_2_code 52 = .ok (.areturn, 1) := by decide +kernel
theorem own_pattern_53 : decode method_2_code 53 = .ok (.iload_n 1, 1) := by decide +kernel
theorem own_pattern_54 : decode method_2_code 54 = .ok (.iconst 3, 1) := by decide +kernel
theorem own_pattern_55 : decode method_2_code 55 = .ok (.if_icmp .ne 20, 3) := by decide +kernel
theorem own_pattern_58 : decode method_2_code 58 = .ok (.iconst 3, 1) := by decide +kernel
theorem own_pattern_59 : decode method_2_code 59 = .ok (.newarray .byte, 2) := by decide +kernel
theorem own_pattern_61 : decode method_2_code 61 = .ok (.dup, 1) := by decide +kernel
theorem own_pattern_62 : decode method_2_code 62 = .ok (.iconst 0, 1) := by decide +kernel
theorem own_pattern_63 : decode method_2_code 63 = .ok (.iload_n 2, 1) := by decide +kernel
theorem own_pattern_64 : decode method_2_code 64 = .ok (.bastore, 1) := by decide +kernel
theorem own_pattern_65 : decode method_2_code 65 = .ok (.dup, 1) := by decide +kernel
theorem own_pattern_66 : decode method_2_code 66 = .ok (.iconst 1, 1) := by decide +kernel
theorem own_pattern_67 : decode method_2_code 67 = .ok (.iload_n 3, 1) := by decide +kernel
theorem own_pattern_68 : decode method_2_code 68 = .ok (.bastore, 1) := by decide +kernel
theorem own_pattern_69 : decode method_2_code 69 = .ok (.dup, 1) := by decide +kernel
theorem own_pattern_70 : decode method_2_code 70 = .ok (.iconst 2, 1) := by decide +kernel
theorem own_pattern_71 : decode method_2_code 71 = .ok (.iload 4, 2) := by decide +kernel
theorem own_pattern_73 : decode method_2_code 73 = .ok (.bastore, 1) := by decide +kernel
theorem own_pattern_74 : decode method_2_code 74 = .ok (.areturn, 1) := by decide +kernel
theorem own_pattern_75 : decode method_2_code 75 = .ok (.iconst 4, 1) := by decide +kernel
theorem own_pattern_76 : decode method_2_code 76 = .ok (.newarray .byte, 2) := by decide +kernel
theorem own_pattern_78 : decode method_2_code 78 = .ok (.dup, 1) := by decide +kernel
theorem own_pattern_79 : decode method_2_code 79 = .ok (.iconst 0, 1) := by decide +kernel
theorem own_pattern_80 : decode method_2_code 80 = .ok (.iload_n 2, 1) := by decide +kernel
theorem own_pattern_81 : decode method_2_code 81 = .ok (.bastore, 1) := by decide +kernel
theorem own_pattern_82 : decode method_2_code 82 = .ok (.dup, 1) := by decide +kernel
theorem own_pattern_83 : decode method_2_code 83 = .ok (.iconst 1, 1) := by decide +kernel
theorem own_pattern_84 : decode method_2_code 84 = .ok (.iload_n 3, 1) := by decide +kernel
theorem own_pattern_85 : decode method_2_code 85 = .ok (.bastore, 1) := by decide +kernel
theorem own_pattern_86 : decode method_2_code 86 = .ok (.dup, 1) := by decide +kernel
theorem own_pattern_87 : decode method_2_code 87 = .ok (.iconst 2, 1) := by decide +kernel
theorem own_pattern_88 : decode method_2_code 88 = .ok (.iload 4, 2) := by decide +kernel
theorem own_pattern_90 : decode method_2_code 90 = .ok (.bastore, 1) := by decide +kernel
theorem own_pattern_91 : decode method_2_code 91 = .ok (.dup, 1) := by decide +kernel
theorem own_pattern_92 : decode method_2_code 92 = .ok (.iconst 3, 1) := by decide +kernel
theorem own_pattern_93 : decode method_2_code 93 = .ok (.iload 5, 2) := by decide +kernel
theorem own_pattern_95 : decode method_2_code 95 = .ok (.bastore, 1) := by decide +kernel
theorem own_pattern_96 : decode method_2_code 96 = .ok (.areturn, 1) := by decide +kernel
theorem own_f6 (m : MethodId) (x0 : Int32) (x1 : Int32) : entryFrame m #[(.int x0), (.int x1)] 6 = mkF m 0 #[.val (.int x0), .val (.int x1), .unset, .unset, .unset, .unset] [] := by first | (simp [entryFrame, mkF, argsToLocals, Value.category]; done) | rfl
set_option maxRecDepth 65536 in
set_option maxHeartbeats 40000000 in
theorem rm_pat (l : Launch) (Z : State) (a0 : Array Value) (hw : ∀ d ∈ tables_1, d.before a0 Z = true) (pt : Int32) (n : Nat) (h0 : Heap) (n0 : Nat) (Z0 : n0 ≤ h0.size) (hn : 1 ≤ n) (hn4 : n ≤ 4) :
    own_Met l Z (⟨"com/example/crossweave/crossweave/soap/OctetPatternNextPinLaw", "pattern", "(II)[B"⟩ : MethodName) method_2_code 6 (some (.array .byte)) ({ frames := 0, cells := 1, slots := 4, locals := 0 } : Room) #[(.int pt), (.int (Int32.ofNat n))] h0 (fun v h L => ∃ b kb, v = some (.ref b) ∧ Fr n0 L ∧ Keep h0 h [] ∧ h0.size ≤ b ∧ Arv Z h b kb .byte (Int32.ofNat n) (own_vN (own_B pt) n) (.int (0 : Int32)) ∧ Exa Z h b "[B") := by
  refine MetFree.of_bodySF (plainFor_of_name own_f1) hisR ?_
  intro p e s m args below meth c s₁ Bd hml0 hP hK
  obtain ⟨rfl, hZ, hh⟩ := hP
  have hx := Bd.exec
  have hby := Bd.bytes
  have hlk : meth.locks = false := Bd.notSynchronized
  have hml : c.maxLocals = 6 := hml0
  have hown : s.vm.findClass "com/example/crossweave/crossweave/soap/OctetPatternNextPinLaw" = some m.cls := findClass_of_methodNamed Bd.named
  have hnm := (name_of_methodNamed Bd.named Bd.method).1
  have X0 : Stand p l e ({ frames := 0, cells := 1, slots := 4, locals := 0 } : Room) s m #[(.int pt), (.int (Int32.ofNat n))] below meth c s₁ [] 0 0 := Stand.of_body Bd
  have e0 : s₁.heap = h0 := by rw [← hh, Bd.state]; rfl
  show own_Go p e below (own_G s (fun v h L => ∃ b kb, v = some (.ref b) ∧ Fr n0 L ∧ Keep h0 h [] ∧ h0.size ≤ b ∧ Arv Z h b kb .byte (Int32.ofNat n) (own_vN (own_B pt) n) (.int (0 : Int32)) ∧ Exa Z h b "[B") 1 4) (s₁.setTop (entryFrame m #[(.int pt), (.int (Int32.ofNat n))] 6))
  rw [own_f6]
  show own_Go p e below _ (s₁.setTop (mkF m 0 #[.val (.int pt), .val (.int (Int32.ofNat n)), .unset, .unset, .unset, .unset] []))
  refine own_go (XS.iloadN X0.here hx rfl (hb hby own_pattern_0) rfl (Steps.refl _)) ?_
  show own_Go p e below _ (s₁.setTop (mkF m 1 #[.val (.int pt), .val (.int (Int32.ofNat n)), .unset, .unset, .unset, .unset] [(.int pt)]))
  refine own_go (XS.i2b X0.here hx rfl (hb hby own_pattern_1) rfl (Steps.refl _)) ?_
  show own_Go p e below _ (s₁.setTop (mkF m 2 #[.val (.int pt), .val (.int (Int32.ofNat n)), .unset, .unset, .unset, .unset] [(.int (pt.toInt8.toInt32))]))
  refine own_go (XS.istoreN X0.here hx rfl (hb hby own_pattern_2) rfl (l' := #[.val (.int pt), .val (.int (Int32.ofNat n)), .val (.int (pt.toInt8.toInt32)), .unset, .unset, .unset]) rfl (Steps.refl _)) ?_
  show own_Go p e below _ (s₁.setTop (mkF m 3 #[.val (.int pt), .val (.int (Int32.ofNat n)), .val (.int (pt.toInt8.toInt32)), .unset, .unset, .unset] []))
  refine own_go (XS.iloadN X0.here hx rfl (hb hby own_pattern_3) rfl (Steps.refl _)) ?_
  show own_Go p e below _ (s₁.setTop (mkF m 4 #[.val (.int pt), .val (.int (Int32.ofNat n)), .val (.int (pt.toInt8.toInt32)), .unset, .unset, .unset] [(.int pt)]))
  refine own_go (XS.bipush X0.here hx rfl (hb hby own_pattern_4) (Steps.refl _)) ?_
  show own_Go p e below _ (s₁.setTop (mkF m 6 #[.val (.int pt), .val (.int (Int32.ofNat n)), .val (.int (pt.toInt8.toInt32)), .unset, .unset, .unset] [(.int (8 : Int32)), (.int pt)]))
  refine own_go (XS.iushr X0.here hx rfl (hb hby own_pattern_6) rfl (Steps.refl _)) ?_
  show own_Go p e below _ (s₁.setTop (mkF m 7 #[.val (.int pt), .val (.int (Int32.ofNat n)), .val (.int (pt.toInt8.toInt32)), .unset, .unset, .unset] [(.int ((pt.toUInt32 >>> ((8 : Int32) &&& 31).toUInt32).toInt32))]))
  refine own_go (XS.i2b X0.here hx rfl (hb hby own_pattern_7) rfl (Steps.refl _)) ?_
  show own_Go p e below _ (s₁.setTop (mkF m 8 #[.val (.int pt), .val (.int (Int32.ofNat n)), .val (.int (pt.toInt8.toInt32)), .unset, .unset, .unset] [(.int (((pt.toUInt32 >>> ((8 : Int32) &&& 31).toUInt32).toInt32).toInt8.toInt32))]))
  refine own_go (XS.istoreN X0.here hx rfl (hb hby own_pattern_8) rfl (l' := #[.val (.int pt), .val (.int (Int32.ofNat n)), .val (.int (pt.toInt8.toInt32)), .val (.int (((pt.toUInt32 >>> ((8 : Int32) &&& 31).toUInt32).toInt32).toInt8.toInt32)), .unset, .unset]) rfl (Steps.refl _)) ?_
  show own_Go p e below _ (s₁.setTop (mkF m 9 #[.val (.int pt), .val (.int (Int32.ofNat n)), .val (.int (pt.toInt8.toInt32)), .val (.int (((pt.toUInt32 >>> ((8 : Int32) &&& 31).toUInt32).toInt32).toInt8.toInt32)), .unset, .unset] []))
  refine own_go (XS.iloadN X0.here hx rfl (hb hby own_pattern_9) rfl (Steps.refl _)) ?_
  show own_Go p e below _ (s₁.setTop (mkF m 10 #[.val (.int pt), .val (.int (Int32.ofNat n)), .val (.int (pt.toInt8.toInt32)), .val (.int (((pt.toUInt32 >>> ((8 : Int32) &&& 31).toUInt32).toInt32).toInt8.toInt32)), .unset, .unset] [(.int pt)]))
  refine own_go (XS.bipush X0.here hx rfl (hb hby own_pattern_10) (Steps.refl _)) ?_
  show own_Go p e below _ (s₁.setTop (mkF m 12 #[.val (.int pt), .val (.int (Int32.ofNat n)), .val (.int (pt.toInt8.toInt32)), .val (.int (((pt.toUInt32 >>> ((8 : Int32) &&& 31).toUInt32).toInt32).toInt8.toInt32)), .unset, .unset] [(.int (16 : Int32)), (.int pt)]))
  refine own_go (XS.iushr X0.here hx rfl (hb hby own_pattern_12) rfl (Steps.refl _)) ?_
  show own_Go p e below _ (s₁.setTop (mkF m 13 #[.val (.int pt), .val (.int (Int32.ofNat n)), .val (.int (pt.toInt8.toInt32)), .val (.int (((pt.toUInt32 >>> ((8 : Int32) &&& 31).toUInt32).toInt32).toInt8.toInt32)), .unset, .unset] [(.int ((pt.toUInt32 >>> ((16 : Int32) &&& 31).toUInt32).toInt32))]))
  refine own_go (XS.i2b X0.here hx rfl (hb hby own_pattern_13) rfl (Steps.refl _)) ?_
  show own_Go p e below _ (s₁.setTop (mkF m 14 #[.val (.int pt), .val (.int (Int32.ofNat n)), .val (.int (pt.toInt8.toInt32)), .val (.int (((pt.toUInt32 >>> ((8 : Int32) &&& 31).toUInt32).toInt32).toInt8.toInt32)), .unset, .unset] [(.int (((pt.toUInt32 >>> ((16 : Int32) &&& 31).toUInt32).toInt32).toInt8.toInt32))]))
  refine own_go (XS.istore X0.here hx rfl (hb hby own_pattern_14) rfl (l' := #[.val (.int pt), .val (.int (Int32.ofNat n)), .val (.int (pt.toInt8.toInt32)), .val (.int (((pt.toUInt32 >>> ((8 : Int32) &&& 31).toUInt32).toInt32).toInt8.toInt32)), .val (.int (((pt.toUInt32 >>> ((16 : Int32) &&& 31).toUInt32).toInt32).toInt8.toInt32)), .unset]) rfl (Steps.refl _)) ?_
  show own_Go p e below _ (s₁.setTop (mkF m 16 #[.val (.int pt), .val (.int (Int32.ofNat n)), .val (.int (pt.toInt8.toInt32)), .val (.int (((pt.toUInt32 >>> ((8 : Int32) &&& 31).toUInt32).toInt32).toInt8.toInt32)), .val (.int (((pt.toUInt32 >>> ((16 : Int32) &&& 31).toUInt32).toInt32).toInt8.toInt32)), .unset] []))
  refine own_go (XS.iloadN X0.here hx rfl (hb hby own_pattern_16) rfl (Steps.refl _)) ?_
  show own_Go p e below _ (s₁.setTop (mkF m 17 #[.val (.int pt), .val (.int (Int32.ofNat n)), .val (.int (pt.toInt8.toInt32)), .val (.int (((pt.toUInt32 >>> ((8 : Int32) &&& 31).toUInt32).toInt32).toInt8.toInt32)), .val (.int (((pt.toUInt32 >>> ((16 : Int32) &&& 31).toUInt32).toInt32).toInt8.toInt32)), .unset] [(.int pt)]))
  refine own_go (XS.bipush X0.here hx rfl (hb hby own_pattern_17) (Steps.refl _)) ?_
  show own_Go p e below _ (s₁.setTop (mkF m 19 #[.val (.int pt), .val (.int (Int32.ofNat n)), .val (.int (pt.toInt8.toInt32)), .val (.int (((pt.toUInt32 >>> ((8 : Int32) &&& 31).toUInt32).toInt32).toInt8.toInt32)), .val (.int (((pt.toUInt32 >>> ((16 : Int32) &&& 31).toUInt32).toInt32).toInt8.toInt32)), .unset] [(.int (24 : Int32)), (.int pt)]))
  refine own_go (XS.iushr X0.here hx rfl (hb hby own_pattern_19) rfl (Steps.refl _)) ?_
  show own_Go p e below _ (s₁.setTop (mkF m 20 #[.val (.int pt), .val (.int (Int32.ofNat n)), .val (.int (pt.toInt8.toInt32)), .val (.int (((pt.toUInt32 >>> ((8 : Int32) &&& 31).toUInt32).toInt32).toInt8.toInt32)), .val (.int (((pt.toUInt32 >>> ((16 : Int32) &&& 31).toUInt32).toInt32).toInt8.toInt32)), .unset] [(.int ((pt.toUInt32 >>> ((24 : Int32) &&& 31).toUInt32).toInt32))]))
  refine own_go (XS.i2b X0.here hx rfl (hb hby own_pattern_20) rfl (Steps.refl _)) ?_
  show own_Go p e below _ (s₁.setTop (mkF m 21 #[.val (.int pt), .val (.int (Int32.ofNat n)), .val (.int (pt.toInt8.toInt32)), .val (.int (((pt.toUInt32 >>> ((8 : Int32) &&& 31).toUInt32).toInt32).toInt8.toInt32)), .val (.int (((pt.toUInt32 >>> ((16 : Int32) &&& 31).toUInt32).toInt32).toInt8.toInt32)), .unset] [(.int (((pt.toUInt32 >>> ((24 : Int32) &&& 31).toUInt32).toInt32).toInt8.toInt32))]))
  refine own_go (XS.istore X0.here hx rfl (hb hby own_pattern_21) rfl (l' := #[.val (.int pt), .val (.int (Int32.ofNat n)), .val (.int (pt.toInt8.toInt32)), .val (.int (((pt.toUInt32 >>> ((8 : Int32) &&& 31).toUInt32).toInt32).toInt8.toInt32)), .val (.int (((pt.toUInt32 >>> ((16 : Int32) &&& 31).toUInt32).toInt32).toInt8.toInt32)), .val (.int (((pt.toUInt32 >>> ((24 : Int32) &&& 31).toUInt32).toInt32).toInt8.toInt32))]) rfl (Steps.refl _)) ?_
  show own_Go p e below _ (s₁.setTop (mkF m 23 #[.val (.int pt), .val (.int (Int32.ofNat n)), .val (.int (pt.toInt8.toInt32)), .val (.int (((pt.toUInt32 >>> ((8 : Int32) &&& 31).toUInt32).toInt32).toInt8.toInt32)), .val (.int (((pt.toUInt32 >>> ((16 : Int32) &&& 31).toUInt32).toInt32).toInt8.toInt32)), .val (.int (((pt.toUInt32 >>> ((24 : Int32) &&& 31).toUInt32).toInt32).toInt8.toInt32))] []))
  have cn : n = 1 ∨ n = 2 ∨ n = 3 ∨ n = 4 := by omega
  rcases cn with rfl | rfl | rfl | rfl
  · show own_Go p e below _ (s₁.setTop (mkF m 23 #[.val (.int pt), .val (.int (1 : Int32)), .val (.int (pt.toInt8.toInt32)), .val (.int (((pt.toUInt32 >>> ((8 : Int32) &&& 31).toUInt32).toInt32).toInt8.toInt32)), .val (.int (((pt.toUInt32 >>> ((16 : Int32) &&& 31).toUInt32).toInt32).toInt8.toInt32)), .val (.int (((pt.toUInt32 >>> ((24 : Int32) &&& 31).toUInt32).toInt32).toInt8.toInt32))] []))
    refine own_go (XS.iloadN X0.here hx rfl (hb hby own_pattern_23) rfl (Steps.refl _)) ?_
    show own_Go p e below _ (s₁.setTop (mkF m 24 #[.val (.int pt), .val (.int (1 : Int32)), .val (.int (pt.toInt8.toInt32)), .val (.int (((pt.toUInt32 >>> ((8 : Int32) &&& 31).toUInt32).toInt32).toInt8.toInt32)), .val (.int (((pt.toUInt32 >>> ((16 : Int32) &&& 31).toUInt32).toInt32).toInt8.toInt32)), .val (.int (((pt.toUInt32 >>> ((24 : Int32) &&& 31).toUInt32).toInt32).toInt8.toInt32))] [(.int (1 : Int32))]))
    refine own_go (XS.iconst X0.here hx rfl (hb hby own_pattern_24) (Steps.refl _)) ?_
    show own_Go p e below _ (s₁.setTop (mkF m 25 #[.val (.int pt), .val (.int (1 : Int32)), .val (.int (pt.toInt8.toInt32)), .val (.int (((pt.toUInt32 >>> ((8 : Int32) &&& 31).toUInt32).toInt32).toInt8.toInt32)), .val (.int (((pt.toUInt32 >>> ((16 : Int32) &&& 31).toUInt32).toInt32).toInt8.toInt32)), .val (.int (((pt.toUInt32 >>> ((24 : Int32) &&& 31).toUInt32).toInt32).toInt8.toInt32))] [(.int (1 : Int32)), (.int (1 : Int32))]))
    refine own_go (XS.icmpNo X0.here hx rfl (hb hby own_pattern_25) rfl (teq (by decide : ((1 : Int32) = (1 : Int32)))).2 (Steps.refl _)) ?_
    show own_Go p e below _ (s₁.setTop (mkF m 28 #[.val (.int pt), .val (.int (1 : Int32)), .val (.int (pt.toInt8.toInt32)), .val (.int (((pt.toUInt32 >>> ((8 : Int32) &&& 31).toUInt32).toInt32).toInt8.toInt32)), .val (.int (((pt.toUInt32 >>> ((16 : Int32) &&& 31).toUInt32).toInt32).toInt8.toInt32)), .val (.int (((pt.toUInt32 >>> ((24 : Int32) &&& 31).toUInt32).toInt32).toInt8.toInt32))] []))
    refine own_go (XS.iconst X0.here hx rfl (hb hby own_pattern_28) (Steps.refl _)) ?_
    show own_Go p e below _ (s₁.setTop (mkF m 29 #[.val (.int pt), .val (.int (1 : Int32)), .val (.int (pt.toInt8.toInt32)), .val (.int (((pt.toUInt32 >>> ((8 : Int32) &&& 31).toUInt32).toInt32).toInt8.toInt32)), .val (.int (((pt.toUInt32 >>> ((16 : Int32) &&& 31).toUInt32).toInt32).toInt8.toInt32)), .val (.int (((pt.toUInt32 >>> ((24 : Int32) &&& 31).toUInt32).toInt32).toInt8.toInt32))] [(.int (1 : Int32))]))
    obtain ⟨T1, h1, c1, b1, g1, X1, e1, E1, V1', A1, st1⟩ := own_newPE X0 hx hZ (hw _ (List.mem_of_getElem? (i := 15) rfl)) e0 (g := (mkF m 29 #[.val (.int pt), .val (.int (1 : Int32)), .val (.int (pt.toInt8.toInt32)), .val (.int (((pt.toUInt32 >>> ((8 : Int32) &&& 31).toUInt32).toInt32).toInt8.toInt32)), .val (.int (((pt.toUInt32 >>> ((16 : Int32) &&& 31).toUInt32).toInt32).toInt8.toInt32)), .val (.int (((pt.toUInt32 >>> ((24 : Int32) &&& 31).toUInt32).toInt32).toInt8.toInt32))] [(.int (1 : Int32))])) rfl (hb hby own_pattern_29) rfl (by decide) (cap := 1) (by decide) (by decide) (by decide) (by decide) (ad := "[B") (by decide)
    have V1 : Arv Z h1 b1 c1 .byte (1 : Int32) [(.int (0 : Int32))] (.int (0 : Int32)) := V1'
    have ge_b1 : n0 ≤ b1 := Nat.le_trans Z0 (Nat.le_of_eq g1.symm)
    have sz_b1 : h0.size ≤ b1 := Nat.le_trans (Keep.refl h0 []).1 (Nat.le_of_eq g1.symm)
    have Zl1 : n0 ≤ h1.size := Nat.le_trans Z0 E1.1
    have K1 : Keep h0 h1 [] := (Keep.refl h0 []).ext E1
    refine own_go st1 ?_
    show own_Go p e below _ (T1.setTop (mkF m 31 #[.val (.int pt), .val (.int (1 : Int32)), .val (.int (pt.toInt8.toInt32)), .val (.int (((pt.toUInt32 >>> ((8 : Int32) &&& 31).toUInt32).toInt32).toInt8.toInt32)), .val (.int (((pt.toUInt32 >>> ((16 : Int32) &&& 31).toUInt32).toInt32).toInt8.toInt32)), .val (.int (((pt.toUInt32 >>> ((24 : Int32) &&& 31).toUInt32).toInt32).toInt8.toInt32))] [(.ref b1)]))
    refine own_go (XS.dup X1.here hx rfl (hb hby own_pattern_31) rfl rfl (Steps.refl _)) ?_
    show own_Go p e below _ (T1.setTop (mkF m 32 #[.val (.int pt), .val (.int (1 : Int32)), .val (.int (pt.toInt8.toInt32)), .val (.int (((pt.toUInt32 >>> ((8 : Int32) &&& 31).toUInt32).toInt32).toInt8.toInt32)), .val (.int (((pt.toUInt32 >>> ((16 : Int32) &&& 31).toUInt32).toInt32).toInt8.toInt32)), .val (.int (((pt.toUInt32 >>> ((24 : Int32) &&& 31).toUInt32).toInt32).toInt8.toInt32))] [(.ref b1), (.ref b1)]))
    refine own_go (XS.iconst X1.here hx rfl (hb hby own_pattern_32) (Steps.refl _)) ?_
    show own_Go p e below _ (T1.setTop (mkF m 33 #[.val (.int pt), .val (.int (1 : Int32)), .val (.int (pt.toInt8.toInt32)), .val (.int (((pt.toUInt32 >>> ((8 : Int32) &&& 31).toUInt32).toInt32).toInt8.toInt32)), .val (.int (((pt.toUInt32 >>> ((16 : Int32) &&& 31).toUInt32).toInt32).toInt8.toInt32)), .val (.int (((pt.toUInt32 >>> ((24 : Int32) &&& 31).toUInt32).toInt32).toInt8.toInt32))] [(.int (0 : Int32)), (.ref b1), (.ref b1)]))
    refine own_go (XS.iloadN X1.here hx rfl (hb hby own_pattern_33) rfl (Steps.refl _)) ?_
    show own_Go p e below _ (T1.setTop (mkF m 34 #[.val (.int pt), .val (.int (1 : Int32)), .val (.int (pt.toInt8.toInt32)), .val (.int (((pt.toUInt32 >>> ((8 : Int32) &&& 31).toUInt32).toInt32).toInt8.toInt32)), .val (.int (((pt.toUInt32 >>> ((16 : Int32) &&& 31).toUInt32).toInt32).toInt8.toInt32)), .val (.int (((pt.toUInt32 >>> ((24 : Int32) &&& 31).toUInt32).toInt32).toInt8.toInt32))] [(.int (pt.toInt8.toInt32)), (.int (0 : Int32)), (.ref b1), (.ref b1)]))
    obtain ⟨T2, h2, X2, e2, W2, V2', st2⟩ := own_stB X1 hx hZ e1 V1 (by decide) (by decide) (g := (mkF m 34 #[.val (.int pt), .val (.int (1 : Int32)), .val (.int (pt.toInt8.toInt32)), .val (.int (((pt.toUInt32 >>> ((8 : Int32) &&& 31).toUInt32).toInt32).toInt8.toInt32)), .val (.int (((pt.toUInt32 >>> ((16 : Int32) &&& 31).toUInt32).toInt32).toInt8.toInt32)), .val (.int (((pt.toUInt32 >>> ((24 : Int32) &&& 31).toUInt32).toInt32).toInt8.toInt32))] [(.int (pt.toInt8.toInt32)), (.int (0 : Int32)), (.ref b1), (.ref b1)])) rfl rfl (hb hby own_pattern_34) (i := 0) rfl (Nat.le_of_ble_eq_true rfl)
    have V2 : Arv Z h2 b1 c1 .byte (1 : Int32) [(.int (nar .byte (pt.toInt8.toInt32)))] (.int (0 : Int32)) := V2'
    have N2 := Fr.snoc X2 (Fr.nil n0) ge_b1
    have Zl2 : n0 ≤ h2.size := Nat.le_trans Zl1 (Keep.of_wr W2).1
    have K2 : Keep h0 h2 [] := K1.wr W2 (Or.inr sz_b1)
    refine own_go st2 ?_
    show own_Go p e below _ (T2.setTop (mkF m 35 #[.val (.int pt), .val (.int (1 : Int32)), .val (.int (pt.toInt8.toInt32)), .val (.int (((pt.toUInt32 >>> ((8 : Int32) &&& 31).toUInt32).toInt32).toInt8.toInt32)), .val (.int (((pt.toUInt32 >>> ((16 : Int32) &&& 31).toUInt32).toInt32).toInt8.toInt32)), .val (.int (((pt.toUInt32 >>> ((24 : Int32) &&& 31).toUInt32).toInt32).toInt8.toInt32))] [(.ref b1)]))
    exact own_retA X2 hx hlk e2 Bd.returns rfl (hb hby own_pattern_35) ⟨b1, c1, rfl, N2, K2, sz_b1, V2, (A1.wr W2)⟩ (by decide) (by decide)
  · show own_Go p e below _ (s₁.setTop (mkF m 23 #[.val (.int pt), .val (.int (2 : Int32)), .val (.int (pt.toInt8.toInt32)), .val (.int (((pt.toUInt32 >>> ((8 : Int32) &&& 31).toUInt32).toInt32).toInt8.toInt32)), .val (.int (((pt.toUInt32 >>> ((16 : Int32) &&& 31).toUInt32).toInt32).toInt8.toInt32)), .val (.int (((pt.toUInt32 >>> ((24 : Int32) &&& 31).toUInt32).toInt32).toInt8.toInt32))] []))
    refine own_go (XS.iloadN X0.here hx rfl (hb hby own_pattern_23) rfl (Steps.refl _)) ?_
    show own_Go p e below _ (s₁.setTop (mkF m 24 #[.val (.int pt), .val (.int (2 : Int32)), .val (.int (pt.toInt8.toInt32)), .val (.int (((pt.toUInt32 >>> ((8 : Int32) &&& 31).toUInt32).toInt32).toInt8.toInt32)), .val (.int (((pt.toUInt32 >>> ((16 : Int32) &&& 31).toUInt32).toInt32).toInt8.toInt32)), .val (.int (((pt.toUInt32 >>> ((24 : Int32) &&& 31).toUInt32).toInt32).toInt8.toInt32))] [(.int (2 : Int32))]))
    refine own_go (XS.iconst X0.here hx rfl (hb hby own_pattern_24) (Steps.refl _)) ?_
    show own_Go p e below _ (s₁.setTop (mkF m 25 #[.val (.int pt), .val (.int (2 : Int32)), .val (.int (pt.toInt8.toInt32)), .val (.int (((pt.toUInt32 >>> ((8 : Int32) &&& 31).toUInt32).toInt32).toInt8.toInt32)), .val (.int (((pt.toUInt32 >>> ((16 : Int32) &&& 31).toUInt32).toInt32).toInt8.toInt32)), .val (.int (((pt.toUInt32 >>> ((24 : Int32) &&& 31).toUInt32).toInt32).toInt8.toInt32))] [(.int (1 : Int32)), (.int (2 : Int32))]))
    refine own_go (XS.icmpYes X0.here hx rfl (pc0 := 25) (pc' := 36) rfl (hb hby own_pattern_25) rfl (feq (by decide : ¬ ((2 : Int32) = (1 : Int32)))).2 (by decide) (by decide) (Steps.refl _)) ?_
    show own_Go p e below _ (s₁.setTop (mkF m 36 #[.val (.int pt), .val (.int (2 : Int32)), .val (.int (pt.toInt8.toInt32)), .val (.int (((pt.toUInt32 >>> ((8 : Int32) &&& 31).toUInt32).toInt32).toInt8.toInt32)), .val (.int (((pt.toUInt32 >>> ((16 : Int32) &&& 31).toUInt32).toInt32).toInt8.toInt32)), .val (.int (((pt.toUInt32 >>> ((24 : Int32) &&& 31).toUInt32).toInt32).toInt8.toInt32))] []))
    refine own_go (XS.iloadN X0.here hx rfl (hb hby own_pattern_36) rfl (Steps.refl _)) ?_
    show own_Go p e below _ (s₁.setTop (mkF m 37 #[.val (.int pt), .val (.int (2 : Int32)), .val (.int (pt.toInt8.toInt32)), .val (.int (((pt.toUInt32 >>> ((8 : Int32) &&& 31).toUInt32).toInt32).toInt8.toInt32)), .val (.int (((pt.toUInt32 >>> ((16 : Int32) &&& 31).toUInt32).toInt32).toInt8.toInt32)), .val (.int (((pt.toUInt32 >>> ((24 : Int32) &&& 31).toUInt32).toInt32).toInt8.toInt32))] [(.int (2 : Int32))]))
    refine own_go (XS.iconst X0.here hx rfl (hb hby own_pattern_37) (Steps.refl _)) ?_
    show own_Go p e below _ (s₁.setTop (mkF m 38 #[.val (.int pt), .val (.int (2 : Int32)), .val (.int (pt.toInt8.toInt32)), .val (.int (((pt.toUInt32 >>> ((8 : Int32) &&& 31).toUInt32).toInt32).toInt8.toInt32)), .val (.int (((pt.toUInt32 >>> ((16 : Int32) &&& 31).toUInt32).toInt32).toInt8.toInt32)), .val (.int (((pt.toUInt32 >>> ((24 : Int32) &&& 31).toUInt32).toInt32).toInt8.toInt32))] [(.int (2 : Int32)), (.int (2 : Int32))]))
    refine own_go (XS.icmpNo X0.here hx rfl (hb hby own_pattern_38) rfl (teq (by decide : ((2 : Int32) = (2 : Int32)))).2 (Steps.refl _)) ?_
    show own_Go p e below _ (s₁.setTop (mkF m 41 #[.val (.int pt), .val (.int (2 : Int32)), .val (.int (pt.toInt8.toInt32)), .val (.int (((pt.toUInt32 >>> ((8 : Int32) &&& 31).toUInt32).toInt32).toInt8.toInt32)), .val (.int (((pt.toUInt32 >>> ((16 : Int32) &&& 31).toUInt32).toInt32).toInt8.toInt32)), .val (.int (((pt.toUInt32 >>> ((24 : Int32) &&& 31).toUInt32).toInt32).toInt8.toInt32))] []))
    refine own_go (XS.iconst X0.here hx rfl (hb hby own_pattern_41) (Steps.refl _)) ?_
    show own_Go p e below _ (s₁.setTop (mkF m 42 #[.val (.int pt), .val (.int (2 : Int32)), .val (.int (pt.toInt8.toInt32)), .val (.int (((pt.toUInt32 >>> ((8 : Int32) &&& 31).toUInt32).toInt32).toInt8.toInt32)), .val (.int (((pt.toUInt32 >>> ((16 : Int32) &&& 31).toUInt32).toInt32).toInt8.toInt32)), .val (.int (((pt.toUInt32 >>> ((24 : Int32) &&& 31).toUInt32).toInt32).toInt8.toInt32))] [(.int (2 : Int32))]))
    obtain ⟨T3, h3, c3, b3, g3, X3, e3, E3, V3', A3, st3⟩ := own_newPE X0 hx hZ (hw _ (List.mem_of_getElem? (i := 15) rfl)) e0 (g := (mkF m 42 #[.val (.int pt), .val (.int (2 : Int32)), .val (.int (pt.toInt8.toInt32)), .val (.int (((pt.toUInt32 >>> ((8 : Int32) &&& 31).toUInt32).toInt32).toInt8.toInt32)), .val (.int (((pt.toUInt32 >>> ((16 : Int32) &&& 31).toUInt32).toInt32).toInt8.toInt32)), .val (.int (((pt.toUInt32 >>> ((24 : Int32) &&& 31).toUInt32).toInt32).toInt8.toInt32))] [(.int (2 : Int32))])) rfl (hb hby own_pattern_42) rfl (by decide) (cap := 2) (by decide) (by decide) (by decide) (by decide) (ad := "[B") (by decide)
    have V3 : Arv Z h3 b3 c3 .byte (2 : Int32) [(.int (0 : Int32)), (.int (0 : Int32))] (.int (0 : Int32)) := V3'
    have ge_b3 : n0 ≤ b3 := Nat.le_trans Z0 (Nat.le_of_eq g3.symm)
    have sz_b3 : h0.size ≤ b3 := Nat.le_trans (Keep.refl h0 []).1 (Nat.le_of_eq g3.symm)
    have Zl3 : n0 ≤ h3.size := Nat.le_trans Z0 E3.1
    have K3 : Keep h0 h3 [] := (Keep.refl h0 []).ext E3
    refine own_go st3 ?_
    show own_Go p e below _ (T3.setTop (mkF m 44 #[.val (.int pt), .val (.int (2 : Int32)), .val (.int (pt.toInt8.toInt32)), .val (.int (((pt.toUInt32 >>> ((8 : Int32) &&& 31).toUInt32).toInt32).toInt8.toInt32)), .val (.int (((pt.toUInt32 >>> ((16 : Int32) &&& 31).toUInt32).toInt32).toInt8.toInt32)), .val (.int (((pt.toUInt32 >>> ((24 : Int32) &&& 31).toUInt32).toInt32).toInt8.toInt32))] [(.ref b3)]))
    refine own_go (XS.dup X3.here hx rfl (hb hby own_pattern_44) rfl rfl (Steps.refl _)) ?_
    show own_Go p e below _ (T3.setTop (mkF m 45 #[.val (.int pt), .val (.int (2 : Int32)), .val (.int (pt.toInt8.toInt32)), .val (.int (((pt.toUInt32 >>> ((8 : Int32) &&& 31).toUInt32).toInt32).toInt8.toInt32)), .val (.int (((pt.toUInt32 >>> ((16 : Int32) &&& 31).toUInt32).toInt32).toInt8.toInt32)), .val (.int (((pt.toUInt32 >>> ((24 : Int32) &&& 31).toUInt32).toInt32).toInt8.toInt32))] [(.ref b3), (.ref b3)]))
    refine own_go (XS.iconst X3.here hx rfl (hb hby own_pattern_45) (Steps.refl _)) ?_
    show own_Go p e below _ (T3.setTop (mkF m 46 #[.val (.int pt), .val (.int (2 : Int32)), .val (.int (pt.toInt8.toInt32)), .val (.int (((pt.toUInt32 >>> ((8 : Int32) &&& 31).toUInt32).toInt32).toInt8.toInt32)), .val (.int (((pt.toUInt32 >>> ((16 : Int32) &&& 31).toUInt32).toInt32).toInt8.toInt32)), .val (.int (((pt.toUInt32 >>> ((24 : Int32) &&& 31).toUInt32).toInt32).toInt8.toInt32))] [(.int (0 : Int32)), (.ref b3), (.ref b3)]))
    refine own_go (XS.iloadN X3.here hx rfl (hb hby own_pattern_46) rfl (Steps.refl _)) ?_
    show own_Go p e below _ (T3.setTop (mkF m 47 #[.val (.int pt), .val (.int (2 : Int32)), .val (.int (pt.toInt8.toInt32)), .val (.int (((pt.toUInt32 >>> ((8 : Int32) &&& 31).toUInt32).toInt32).toInt8.toInt32)), .val (.int (((pt.toUInt32 >>> ((16 : Int32) &&& 31).toUInt32).toInt32).toInt8.toInt32)), .val (.int (((pt.toUInt32 >>> ((24 : Int32) &&& 31).toUInt32).toInt32).toInt8.toInt32))] [(.int (pt.toInt8.toInt32)), (.int (0 : Int32)), (.ref b3), (.ref b3)]))
    obtain ⟨T4, h4, X4, e4, W4, V4', st4⟩ := own_stB X3 hx hZ e3 V3 (by decide) (by decide) (g := (mkF m 47 #[.val (.int pt), .val (.int (2 : Int32)), .val (.int (pt.toInt8.toInt32)), .val (.int (((pt.toUInt32 >>> ((8 : Int32) &&& 31).toUInt32).toInt32).toInt8.toInt32)), .val (.int (((pt.toUInt32 >>> ((16 : Int32) &&& 31).toUInt32).toInt32).toInt8.toInt32)), .val (.int (((pt.toUInt32 >>> ((24 : Int32) &&& 31).toUInt32).toInt32).toInt8.toInt32))] [(.int (pt.toInt8.toInt32)), (.int (0 : Int32)), (.ref b3), (.ref b3)])) rfl rfl (hb hby own_pattern_47) (i := 0) rfl (Nat.le_of_ble_eq_true rfl)
    have V4 : Arv Z h4 b3 c3 .byte (2 : Int32) [(.int (nar .byte (pt.toInt8.toInt32))), (.int (0 : Int32))] (.int (0 : Int32)) := V4'
    have N4 := Fr.snoc X4 (Fr.nil n0) ge_b3
    have Zl4 : n0 ≤ h4.size := Nat.le_trans Zl3 (Keep.of_wr W4).1
    have K4 : Keep h0 h4 [] := K3.wr W4 (Or.inr sz_b3)
    refine own_go st4 ?_
    show own_Go p e below _ (T4.setTop (mkF m 48 #[.val (.int pt), .val (.int (2 : Int32)), .val (.int (pt.toInt8.toInt32)), .val (.int (((pt.toUInt32 >>> ((8 : Int32) &&& 31).toUInt32).toInt32).toInt8.toInt32)), .val (.int (((pt.toUInt32 >>> ((16 : Int32) &&& 31).toUInt32).toInt32).toInt8.toInt32)), .val (.int (((pt.toUInt32 >>> ((24 : Int32) &&& 31).toUInt32).toInt32).toInt8.toInt32))] [(.ref b3)]))
    refine own_go (XS.dup X4.here hx rfl (hb hby own_pattern_48) rfl rfl (Steps.refl _)) ?_
    show own_Go p e below _ (T4.setTop (mkF m 49 #[.val (.int pt), .val (.int (2 : Int32)), .val (.int (pt.toInt8.toInt32)), .val (.int (((pt.toUInt32 >>> ((8 : Int32) &&& 31).toUInt32).toInt32).toInt8.toInt32)), .val (.int (((pt.toUInt32 >>> ((16 : Int32) &&& 31).toUInt32).toInt32).toInt8.toInt32)), .val (.int (((pt.toUInt32 >>> ((24 : Int32) &&& 31).toUInt32).toInt32).toInt8.toInt32))] [(.ref b3), (.ref b3)]))
    refine own_go (XS.iconst X4.here hx rfl (hb hby own_pattern_49) (Steps.refl _)) ?_
    show own_Go p e below _ (T4.setTop (mkF m 50 #[.val (.int pt), .val (.int (2 : Int32)), .val (.int (pt.toInt8.toInt32)), .val (.int (((pt.toUInt32 >>> ((8 : Int32) &&& 31).toUInt32).toInt32).toInt8.toInt32)), .val (.int (((pt.toUInt32 >>> ((16 : Int32) &&& 31).toUInt32).toInt32).toInt8.toInt32)), .val (.int (((pt.toUInt32 >>> ((24 : Int32) &&& 31).toUInt32).toInt32).toInt8.toInt32))] [(.int (1 : Int32)), (.ref b3), (.ref b3)]))
    refine own_go (XS.iloadN X4.here hx rfl (hb hby own_pattern_50) rfl (Steps.refl _)) ?_
    show own_Go p e below _ (T4.setTop (mkF m 51 #[.val (.int pt), .val (.int (2 : Int32)), .val (.int (pt.toInt8.toInt32)), .val (.int (((pt.toUInt32 >>> ((8 : Int32) &&& 31).toUInt32).toInt32).toInt8.toInt32)), .val (.int (((pt.toUInt32 >>> ((16 : Int32) &&& 31).toUInt32).toInt32).toInt8.toInt32)), .val (.int (((pt.toUInt32 >>> ((24 : Int32) &&& 31).toUInt32).toInt32).toInt8.toInt32))] [(.int (((pt.toUInt32 >>> ((8 : Int32) &&& 31).toUInt32).toInt32).toInt8.toInt32)), (.int (1 : Int32)), (.ref b3), (.ref b3)]))
    obtain ⟨T5, h5, X5, e5, W5, V5', st5⟩ := own_stB X4 hx hZ e4 V4 (by decide) (by decide) (g := (mkF m 51 #[.val (.int pt), .val (.int (2 : Int32)), .val (.int (pt.toInt8.toInt32)), .val (.int (((pt.toUInt32 >>> ((8 : Int32) &&& 31).toUInt32).toInt32).toInt8.toInt32)), .val (.int (((pt.toUInt32 >>> ((16 : Int32) &&& 31).toUInt32).toInt32).toInt8.toInt32)), .val (.int (((pt.toUInt32 >>> ((24 : Int32) &&& 31).toUInt32).toInt32).toInt8.toInt32))] [(.int (((pt.toUInt32 >>> ((8 : Int32) &&& 31).toUInt32).toInt32).toInt8.toInt32)), (.int (1 : Int32)), (.ref b3), (.ref b3)])) rfl rfl (hb hby own_pattern_51) (i := 1) rfl (Nat.le_of_ble_eq_true rfl)
    have V5 : Arv Z h5 b3 c3 .byte (2 : Int32) [(.int (nar .byte (pt.toInt8.toInt32))), (.int (nar .byte (((pt.toUInt32 >>> ((8 : Int32) &&& 31).toUInt32).toInt32).toInt8.toInt32)))] (.int (0 : Int32)) := V5'
    have N5 := Fr.snoc X5 N4 ge_b3
    have Zl5 : n0 ≤ h5.size := Nat.le_trans Zl4 (Keep.of_wr W5).1
    have K5 : Keep h0 h5 [] := K4.wr W5 (Or.inr sz_b3)
    refine own_go st5 ?_
    show own_Go p e below _ (T5.setTop (mkF m 52 #[.val (.int pt), .val (.int (2 : Int32)), .val (.int (pt.toInt8.toInt32)), .val (.int (((pt.toUInt32 >>> ((8 : Int32) &&& 31).toUInt32).toInt32).toInt8.toInt32)), .val (.int (((pt.toUInt32 >>> ((16 : Int32) &&& 31).toUInt32).toInt32).toInt8.toInt32)), .val (.int (((pt.toUInt32 >>> ((24 : Int32) &&& 31).toUInt32).toInt32).toInt8.toInt32))] [(.ref b3)]))
    exact own_retA X5 hx hlk e5 Bd.returns rfl (hb hby own_pattern_52) ⟨b3, c3, rfl, N5, K5, sz_b3, V5, ((A3.wr W4).wr W5)⟩ (by decide) (by decide)
  · show own_Go p e below _ (s₁.setTop (mkF m 23 #[.val (.int pt), .val (.int (3 : Int32)), .val (.int (pt.toInt8.toInt32)), .val (.int (((pt.toUInt32 >>> ((8 : Int32) &&& 31).toUInt32).toInt32).toInt8.toInt32)), .val (.int (((pt.toUInt32 >>> ((16 : Int32) &&& 31).toUInt32).toInt32).toInt8.toInt32)), .val (.int (((pt.toUInt32 >>> ((24 : Int32) &&& 31).toUInt32).toInt32).toInt8.toInt32))] []))
    refine own_go (XS.iloadN X0.here hx rfl (hb hby own_pattern_23) rfl (Steps.refl _)) ?_
    show own_Go p e below _ (s₁.setTop (mkF m 24 #[.val (.int pt), .val (.int (3 : Int32)), .val (.int (pt.toInt8.toInt32)), .val (.int (((pt.toUInt32 >>> ((8 : Int32) &&& 31).toUInt32).toInt32).toInt8.toInt32)), .val (.int (((pt.toUInt32 >>> ((16 : Int32) &&& 31).toUInt32).toInt32).toInt8.toInt32)), .val (.int (((pt.toUInt32 >>> ((24 : Int32) &&& 31).toUInt32).toInt32).toInt8.toInt32))] [(.int (3 : Int32))]))
    refine own_go (XS.iconst X0.here hx rfl (hb hby own_pattern_24) (Steps.refl _)) ?_
    show own_Go p e below _ (s₁.setTop (mkF m 25 #[.val (.int pt), .val (.int (3 : Int32)), .val (.int (pt.toInt8.toInt32)), .val (.int (((pt.toUInt32 >>> ((8 : Int32) &&& 31).toUInt32).toInt32).toInt8.toInt32)), .val (.int (((pt.toUInt32 >>> ((16 : Int32) &&& 31).toUInt32).toInt32).toInt8.toInt32)), .val (.int (((pt.toUInt32 >>> ((24 : Int32) &&& 31).toUInt32).toInt32).toInt8.toInt32))] [(.int (1 : Int32)), (.int (3 : Int32))]))
    refine own_go (XS.icmpYes X0.here hx rfl (pc0 := 25) (pc' := 36) rfl (hb hby own_pattern_25) rfl (feq (by decide : ¬ ((3 : Int32) = (1 : Int32)))).2 (by decide) (by decide) (Steps.refl _)) ?_
    show own_Go p e below _ (s₁.setTop (mkF m 36 #[.val (.int pt), .val (.int (3 : Int32)), .val (.int (pt.toInt8.toInt32)), .val (.int (((pt.toUInt32 >>> ((8 : Int32) &&& 31).toUInt32).toInt32).toInt8.toInt32)), .val (.int (((pt.toUInt32 >>> ((16 : Int32) &&& 31).toUInt32).toInt32).toInt8.toInt32)), .val (.int (((pt.toUInt32 >>> ((24 : Int32) &&& 31).toUInt32).toInt32).toInt8.toInt32))] []))
    refine own_go (XS.iloadN X0.here hx rfl (hb hby own_pattern_36) rfl (Steps.refl _)) ?_
    show own_Go p e below _ (s₁.setTop (mkF m 37 #[.val (.int pt), .val (.int (3 : Int32)), .val (.int (pt.toInt8.toInt32)), .val (.int (((pt.toUInt32 >>> ((8 : Int32) &&& 31).toUInt32).toInt32).toInt8.toInt32)), .val (.int (((pt.toUInt32 >>> ((16 : Int32) &&& 31).toUInt32).toInt32).toInt8.toInt32)), .val (.int (((pt.toUInt32 >>> ((24 : Int32) &&& 31).toUInt32).toInt32).toInt8.toInt32))] [(.int (3 : Int32))]))
    refine own_go (XS.iconst X0.here hx rfl (hb hby own_pattern_37) (Steps.refl _)) ?_
    show own_Go p e below _ (s₁.setTop (mkF m 38 #[.val (.int pt), .val (.int (3 : Int32)), .val (.int (pt.toInt8.toInt32)), .val (.int (((pt.toUInt32 >>> ((8 : Int32) &&& 31).toUInt32).toInt32).toInt8.toInt32)), .val (.int (((pt.toUInt32 >>> ((16 : Int32) &&& 31).toUInt32).toInt32).toInt8.toInt32)), .val (.int (((pt.toUInt32 >>> ((24 : Int32) &&& 31).toUInt32).toInt32).toInt8.toInt32))] [(.int (2 : Int32)), (.int (3 : Int32))]))
    refine own_go (XS.icmpYes X0.here hx rfl (pc0 := 38) (pc' := 53) rfl (hb hby own_pattern_38) rfl (feq (by decide : ¬ ((3 : Int32) = (2 : Int32)))).2 (by decide) (by decide) (Steps.refl _)) ?_
    show own_Go p e below _ (s₁.setTop (mkF m 53 #[.val (.int pt), .val (.int (3 : Int32)), .val (.int (pt.toInt8.toInt32)), .val (.int (((pt.toUInt32 >>> ((8 : Int32) &&& 31).toUInt32).toInt32).toInt8.toInt32)), .val (.int (((pt.toUInt32 >>> ((16 : Int32) &&& 31).toUInt32).toInt32).toInt8.toInt32)), .val (.int (((pt.toUInt32 >>> ((24 : Int32) &&& 31).toUInt32).toInt32).toInt8.toInt32))] []))
    refine own_go (XS.iloadN X0.here hx rfl (hb hby own_pattern_53) rfl (Steps.refl _)) ?_
    show own_Go p e below _ (s₁.setTop (mkF m 54 #[.val (.int pt), .val (.int (3 : Int32)), .val (.int (pt.toInt8.toInt32)), .val (.int (((pt.toUInt32 >>> ((8 : Int32) &&& 31).toUInt32).toInt32).toInt8.toInt32)), .val (.int (((pt.toUInt32 >>> ((16 : Int32) &&& 31).toUInt32).toInt32).toInt8.toInt32)), .val (.int (((pt.toUInt32 >>> ((24 : Int32) &&& 31).toUInt32).toInt32).toInt8.toInt32))] [(.int (3 : Int32))]))
    refine own_go (XS.iconst X0.here hx rfl (hb hby own_pattern_54) (Steps.refl _)) ?_
    show own_Go p e below _ (s₁.setTop (mkF m 55 #[.val (.int pt), .val (.int (3 : Int32)), .val (.int (pt.toInt8.toInt32)), .val (.int (((pt.toUInt32 >>> ((8 : Int32) &&& 31).toUInt32).toInt32).toInt8.toInt32)), .val (.int (((pt.toUInt32 >>> ((16 : Int32) &&& 31).toUInt32).toInt32).toInt8.toInt32)), .val (.int (((pt.toUInt32 >>> ((24 : Int32) &&& 31).toUInt32).toInt32).toInt8.toInt32))] [(.int (3 : Int32)), (.int (3 : Int32))]))
    refine own_go (XS.icmpNo X0.here hx rfl (hb hby own_pattern_55) rfl (teq (by decide : ((3 : Int32) = (3 : Int32)))).2 (Steps.refl _)) ?_
    show own_Go p e below _ (s₁.setTop (mkF m 58 #[.val (.int pt), .val (.int (3 : Int32)), .val (.int (pt.toInt8.toInt32)), .val (.int (((pt.toUInt32 >>> ((8 : Int32) &&& 31).toUInt32).toInt32).toInt8.toInt32)), .val (.int (((pt.toUInt32 >>> ((16 : Int32) &&& 31).toUInt32).toInt32).toInt8.toInt32)), .val (.int (((pt.toUInt32 >>> ((24 : Int32) &&& 31).toUInt32).toInt32).toInt8.toInt32))] []))
    refine own_go (XS.iconst X0.here hx rfl (hb hby own_pattern_58) (Steps.refl _)) ?_
    show own_Go p e below _ (s₁.setTop (mkF m 59 #[.val (.int pt), .val (.int (3 : Int32)), .val (.int (pt.toInt8.toInt32)), .val (.int (((pt.toUInt32 >>> ((8 : Int32) &&& 31).toUInt32).toInt32).toInt8.toInt32)), .val (.int (((pt.toUInt32 >>> ((16 : Int32) &&& 31).toUInt32).toInt32).toInt8.toInt32)), .val (.int (((pt.toUInt32 >>> ((24 : Int32) &&& 31).toUInt32).toInt32).toInt8.toInt32))] [(.int (3 : Int32))]))
    obtain ⟨T6, h6, c6, b6, g6, X6, e6, E6, V6', A6, st6⟩ := own_newPE X0 hx hZ (hw _ (List.mem_of_getElem? (i := 15) rfl)) e0 (g := (mkF m 59 #[.val (.int pt), .val (.int (3 : Int32)), .val (.int (pt.toInt8.toInt32)), .val (.int (((pt.toUInt32 >>> ((8 : Int32) &&& 31).toUInt32).toInt32).toInt8.toInt32)), .val (.int (((pt.toUInt32 >>> ((16 : Int32) &&& 31).toUInt32).toInt32).toInt8.toInt32)), .val (.int (((pt.toUInt32 >>> ((24 : Int32) &&& 31).toUInt32).toInt32).toInt8.toInt32))] [(.int (3 : Int32))])) rfl (hb hby own_pattern_59) rfl (by decide) (cap := 3) (by decide) (by decide) (by decide) (by decide) (ad := "[B") (by decide)
    have V6 : Arv Z h6 b6 c6 .byte (3 : Int32) [(.int (0 : Int32)), (.int (0 : Int32)), (.int (0 : Int32))] (.int (0 : Int32)) := V6'
    have ge_b6 : n0 ≤ b6 := Nat.le_trans Z0 (Nat.le_of_eq g6.symm)
    have sz_b6 : h0.size ≤ b6 := Nat.le_trans (Keep.refl h0 []).1 (Nat.le_of_eq g6.symm)
    have Zl6 : n0 ≤ h6.size := Nat.le_trans Z0 E6.1
    have K6 : Keep h0 h6 [] := (Keep.refl h0 []).ext E6
    refine own_go st6 ?_
    show own_Go p e below _ (T6.setTop (mkF m 61 #[.val (.int pt), .val (.int (3 : Int32)), .val (.int (pt.toInt8.toInt32)), .val (.int (((pt.toUInt32 >>> ((8 : Int32) &&& 31).toUInt32).toInt32).toInt8.toInt32)), .val (.int (((pt.toUInt32 >>> ((16 : Int32) &&& 31).toUInt32).toInt32).toInt8.toInt32)), .val (.int (((pt.toUInt32 >>> ((24 : Int32) &&& 31).toUInt32).toInt32).toInt8.toInt32))] [(.ref b6)]))
    refine own_go (XS.dup X6.here hx rfl (hb hby own_pattern_61) rfl rfl (Steps.refl _)) ?_
    show own_Go p e below _ (T6.setTop (mkF m 62 #[.val (.int pt), .val (.int (3 : Int32)), .val (.int (pt.toInt8.toInt32)), .val (.int (((pt.toUInt32 >>> ((8 : Int32) &&& 31).toUInt32).toInt32).toInt8.toInt32)), .val (.int (((pt.toUInt32 >>> ((16 : Int32) &&& 31).toUInt32).toInt32).toInt8.toInt32)), .val (.int (((pt.toUInt32 >>> ((24 : Int32) &&& 31).toUInt32).toInt32).toInt8.toInt32))] [(.ref b6), (.ref b6)]))
    refine own_go (XS.iconst X6.here hx rfl (hb hby own_pattern_62) (Steps.refl _)) ?_
    show own_Go p e below _ (T6.setTop (mkF m 63 #[.val (.int pt), .val (.int (3 : Int32)), .val (.int (pt.toInt8.toInt32)), .val (.int (((pt.toUInt32 >>> ((8 : Int32) &&& 31).toUInt32).toInt32).toInt8.toInt32)), .val (.int (((pt.toUInt32 >>> ((16 : Int32) &&& 31).toUInt32).toInt32).toInt8.toInt32)), .val (.int (((pt.toUInt32 >>> ((24 : Int32) &&& 31).toUInt32).toInt32).toInt8.toInt32))] [(.int (0 : Int32)), (.ref b6), (.ref b6)]))
    refine own_go (XS.iloadN X6.here hx rfl (hb hby own_pattern_63) rfl (Steps.refl _)) ?_
    show own_Go p e below _ (T6.setTop (mkF m 64 #[.val (.int pt), .val (.int (3 : Int32)), .val (.int (pt.toInt8.toInt32)), .val (.int (((pt.toUInt32 >>> ((8 : Int32) &&& 31).toUInt32).toInt32).toInt8.toInt32)), .val (.int (((pt.toUInt32 >>> ((16 : Int32) &&& 31).toUInt32).toInt32).toInt8.toInt32)), .val (.int (((pt.toUInt32 >>> ((24 : Int32) &&& 31).toUInt32).toInt32).toInt8.toInt32))] [(.int (pt.toInt8.toInt32)), (.int (0 : Int32)), (.ref b6), (.ref b6)]))
    obtain ⟨T7, h7, X7, e7, W7, V7', st7⟩ := own_stB X6 hx hZ e6 V6 (by decide) (by decide) (g := (mkF m 64 #[.val (.int pt), .val (.int (3 : Int32)), .val (.int (pt.toInt8.toInt32)), .val (.int (((pt.toUInt32 >>> ((8 : Int32) &&& 31).toUInt32).toInt32).toInt8.toInt32)), .val (.int (((pt.toUInt32 >>> ((16 : Int32) &&& 31).toUInt32).toInt32).toInt8.toInt32)), .val (.int (((pt.toUInt32 >>> ((24 : Int32) &&& 31).toUInt32).toInt32).toInt8.toInt32))] [(.int (pt.toInt8.toInt32)), (.int (0 : Int32)), (.ref b6), (.ref b6)])) rfl rfl (hb hby own_pattern_64) (i := 0) rfl (Nat.le_of_ble_eq_true rfl)
    have V7 : Arv Z h7 b6 c6 .byte (3 : Int32) [(.int (nar .byte (pt.toInt8.toInt32))), (.int (0 : Int32)), (.int (0 : Int32))] (.int (0 : Int32)) := V7'
    have N7 := Fr.snoc X7 (Fr.nil n0) ge_b6
    have Zl7 : n0 ≤ h7.size := Nat.le_trans Zl6 (Keep.of_wr W7).1
    have K7 : Keep h0 h7 [] := K6.wr W7 (Or.inr sz_b6)
    refine own_go st7 ?_
    show own_Go p e below _ (T7.setTop (mkF m 65 #[.val (.int pt), .val (.int (3 : Int32)), .val (.int (pt.toInt8.toInt32)), .val (.int (((pt.toUInt32 >>> ((8 : Int32) &&& 31).toUInt32).toInt32).toInt8.toInt32)), .val (.int (((pt.toUInt32 >>> ((16 : Int32) &&& 31).toUInt32).toInt32).toInt8.toInt32)), .val (.int (((pt.toUInt32 >>> ((24 : Int32) &&& 31).toUInt32).toInt32).toInt8.toInt32))] [(.ref b6)]))
    refine own_go (XS.dup X7.here hx rfl (hb hby own_pattern_65) rfl rfl (Steps.refl _)) ?_
    show own_Go p e below _ (T7.setTop (mkF m 66 #[.val (.int pt), .val (.int (3 : Int32)), .val (.int (pt.toInt8.toInt32)), .val (.int (((pt.toUInt32 >>> ((8 : Int32) &&& 31).toUInt32).toInt32).toInt8.toInt32)), .val (.int (((pt.toUInt32 >>> ((16 : Int32) &&& 31).toUInt32).toInt32).toInt8.toInt32)), .val (.int (((pt.toUInt32 >>> ((24 : Int32) &&& 31).toUInt32).toInt32).toInt8.toInt32))] [(.ref b6), (.ref b6)]))
    refine own_go (XS.iconst X7.here hx rfl (hb hby own_pattern_66) (Steps.refl _)) ?_
    show own_Go p e below _ (T7.setTop (mkF m 67 #[.val (.int pt), .val (.int (3 : Int32)), .val (.int (pt.toInt8.toInt32)), .val (.int (((pt.toUInt32 >>> ((8 : Int32) &&& 31).toUInt32).toInt32).toInt8.toInt32)), .val (.int (((pt.toUInt32 >>> ((16 : Int32) &&& 31).toUInt32).toInt32).toInt8.toInt32)), .val (.int (((pt.toUInt32 >>> ((24 : Int32) &&& 31).toUInt32).toInt32).toInt8.toInt32))] [(.int (1 : Int32)), (.ref b6), (.ref b6)]))
    refine own_go (XS.iloadN X7.here hx rfl (hb hby own_pattern_67) rfl (Steps.refl _)) ?_
    show own_Go p e below _ (T7.setTop (mkF m 68 #[.val (.int pt), .val (.int (3 : Int32)), .val (.int (pt.toInt8.toInt32)), .val (.int (((pt.toUInt32 >>> ((8 : Int32) &&& 31).toUInt32).toInt32).toInt8.toInt32)), .val (.int (((pt.toUInt32 >>> ((16 : Int32) &&& 31).toUInt32).toInt32).toInt8.toInt32)), .val (.int (((pt.toUInt32 >>> ((24 : Int32) &&& 31).toUInt32).toInt32).toInt8.toInt32))] [(.int (((pt.toUInt32 >>> ((8 : Int32) &&& 31).toUInt32).toInt32).toInt8.toInt32)), (.int (1 : Int32)), (.ref b6), (.ref b6)]))
    obtain ⟨T8, h8, X8, e8, W8, V8', st8⟩ := own_stB X7 hx hZ e7 V7 (by decide) (by decide) (g := (mkF m 68 #[.val (.int pt), .val (.int (3 : Int32)), .val (.int (pt.toInt8.toInt32)), .val (.int (((pt.toUInt32 >>> ((8 : Int32) &&& 31).toUInt32).toInt32).toInt8.toInt32)), .val (.int (((pt.toUInt32 >>> ((16 : Int32) &&& 31).toUInt32).toInt32).toInt8.toInt32)), .val (.int (((pt.toUInt32 >>> ((24 : Int32) &&& 31).toUInt32).toInt32).toInt8.toInt32))] [(.int (((pt.toUInt32 >>> ((8 : Int32) &&& 31).toUInt32).toInt32).toInt8.toInt32)), (.int (1 : Int32)), (.ref b6), (.ref b6)])) rfl rfl (hb hby own_pattern_68) (i := 1) rfl (Nat.le_of_ble_eq_true rfl)
    have V8 : Arv Z h8 b6 c6 .byte (3 : Int32) [(.int (nar .byte (pt.toInt8.toInt32))), (.int (nar .byte (((pt.toUInt32 >>> ((8 : Int32) &&& 31).toUInt32).toInt32).toInt8.toInt32))), (.int (0 : Int32))] (.int (0 : Int32)) := V8'
    have N8 := Fr.snoc X8 N7 ge_b6
    have Zl8 : n0 ≤ h8.size := Nat.le_trans Zl7 (Keep.of_wr W8).1
    have K8 : Keep h0 h8 [] := K7.wr W8 (Or.inr sz_b6)
    refine own_go st8 ?_
    show own_Go p e below _ (T8.setTop (mkF m 69 #[.val (.int pt), .val (.int (3 : Int32)), .val (.int (pt.toInt8.toInt32)), .val (.int (((pt.toUInt32 >>> ((8 : Int32) &&& 31).toUInt32).toInt32).toInt8.toInt32)), .val (.int (((pt.toUInt32 >>> ((16 : Int32) &&& 31).toUInt32).toInt32).toInt8.toInt32)), .val (.int (((pt.toUInt32 >>> ((24 : Int32) &&& 31).toUInt32).toInt32).toInt8.toInt32))] [(.ref b6)]))
    refine own_go (XS.dup X8.here hx rfl (hb hby own_pattern_69) rfl rfl (Steps.refl _)) ?_
    show own_Go p e below _ (T8.setTop (mkF m 70 #[.val (.int pt), .val (.int (3 : Int32)), .val (.int (pt.toInt8.toInt32)), .val (.int (((pt.toUInt32 >>> ((8 : Int32) &&& 31).toUInt32).toInt32).toInt8.toInt32)), .val (.int (((pt.toUInt32 >>> ((16 : Int32) &&& 31).toUInt32).toInt32).toInt8.toInt32)), .val (.int (((pt.toUInt32 >>> ((24 : Int32) &&& 31).toUInt32).toInt32).toInt8.toInt32))] [(.ref b6), (.ref b6)]))
    refine own_go (XS.iconst X8.here hx rfl (hb hby own_pattern_70) (Steps.refl _)) ?_
    show own_Go p e below _ (T8.setTop (mkF m 71 #[.val (.int pt), .val (.int (3 : Int32)), .val (.int (pt.toInt8.toInt32)), .val (.int (((pt.toUInt32 >>> ((8 : Int32) &&& 31).toUInt32).toInt32).toInt8.toInt32)), .val (.int (((pt.toUInt32 >>> ((16 : Int32) &&& 31).toUInt32).toInt32).toInt8.toInt32)), .val (.int (((pt.toUInt32 >>> ((24 : Int32) &&& 31).toUInt32).toInt32).toInt8.toInt32))] [(.int (2 : Int32)), (.ref b6), (.ref b6)]))
    refine own_go (XS.iload X8.here hx rfl (hb hby own_pattern_71) rfl (Steps.refl _)) ?_
    show own_Go p e below _ (T8.setTop (mkF m 73 #[.val (.int pt), .val (.int (3 : Int32)), .val (.int (pt.toInt8.toInt32)), .val (.int (((pt.toUInt32 >>> ((8 : Int32) &&& 31).toUInt32).toInt32).toInt8.toInt32)), .val (.int (((pt.toUInt32 >>> ((16 : Int32) &&& 31).toUInt32).toInt32).toInt8.toInt32)), .val (.int (((pt.toUInt32 >>> ((24 : Int32) &&& 31).toUInt32).toInt32).toInt8.toInt32))] [(.int (((pt.toUInt32 >>> ((16 : Int32) &&& 31).toUInt32).toInt32).toInt8.toInt32)), (.int (2 : Int32)), (.ref b6), (.ref b6)]))
    obtain ⟨T9, h9, X9, e9, W9, V9', st9⟩ := own_stB X8 hx hZ e8 V8 (by decide) (by decide) (g := (mkF m 73 #[.val (.int pt), .val (.int (3 : Int32)), .val (.int (pt.toInt8.toInt32)), .val (.int (((pt.toUInt32 >>> ((8 : Int32) &&& 31).toUInt32).toInt32).toInt8.toInt32)), .val (.int (((pt.toUInt32 >>> ((16 : Int32) &&& 31).toUInt32).toInt32).toInt8.toInt32)), .val (.int (((pt.toUInt32 >>> ((24 : Int32) &&& 31).toUInt32).toInt32).toInt8.toInt32))] [(.int (((pt.toUInt32 >>> ((16 : Int32) &&& 31).toUInt32).toInt32).toInt8.toInt32)), (.int (2 : Int32)), (.ref b6), (.ref b6)])) rfl rfl (hb hby own_pattern_73) (i := 2) rfl (Nat.le_of_ble_eq_true rfl)
    have V9 : Arv Z h9 b6 c6 .byte (3 : Int32) [(.int (nar .byte (pt.toInt8.toInt32))), (.int (nar .byte (((pt.toUInt32 >>> ((8 : Int32) &&& 31).toUInt32).toInt32).toInt8.toInt32))), (.int (nar .byte (((pt.toUInt32 >>> ((16 : Int32) &&& 31).toUInt32).toInt32).toInt8.toInt32)))] (.int (0 : Int32)) := V9'
    have N9 := Fr.snoc X9 N8 ge_b6
    have Zl9 : n0 ≤ h9.size := Nat.le_trans Zl8 (Keep.of_wr W9).1
    have K9 : Keep h0 h9 [] := K8.wr W9 (Or.inr sz_b6)
    refine own_go st9 ?_
    show own_Go p e below _ (T9.setTop (mkF m 74 #[.val (.int pt), .val (.int (3 : Int32)), .val (.int (pt.toInt8.toInt32)), .val (.int (((pt.toUInt32 >>> ((8 : Int32) &&& 31).toUInt32).toInt32).toInt8.toInt32)), .val (.int (((pt.toUInt32 >>> ((16 : Int32) &&& 31).toUInt32).toInt32).toInt8.toInt32)), .val (.int (((pt.toUInt32 >>> ((24 : Int32) &&& 31).toUInt32).toInt32).toInt8.toInt32))] [(.ref b6)]))
    exact own_retA X9 hx hlk e9 Bd.returns rfl (hb hby own_pattern_74) ⟨b6, c6, rfl, N9, K9, sz_b6, V9, (((A6.wr W7).wr W8).wr W9)⟩ (by decide) (by decide)
  · show own_Go p e below _ (s₁.setTop (mkF m 23 #[.val (.int pt), .val (.int (4 : Int32)), .val (.int (pt.toInt8.toInt32)), .val (.int (((pt.toUInt32 >>> ((8 : Int32) &&& 31).toUInt32).toInt32).toInt8.toInt32)), .val (.int (((pt.toUInt32 >>> ((16 : Int32) &&& 31).toUInt32).toInt32).toInt8.toInt32)), .val (.int (((pt.toUInt32 >>> ((24 : Int32) &&& 31).toUInt32).toInt32).toInt8.toInt32))] []))
    refine own_go (XS.iloadN X0.here hx rfl (hb hby own_pattern_23) rfl (Steps.refl _)) ?_
    show own_Go p e below _ (s₁.setTop (mkF m 24 #[.val (.int pt), .val (.int (4 : Int32)), .val (.int (pt.toInt8.toInt32)), .val (.int (((pt.toUInt32 >>> ((8 : Int32) &&& 31).toUInt32).toInt32).toInt8.toInt32)), .val (.int (((pt.toUInt32 >>> ((16 : Int32) &&& 31).toUInt32).toInt32).toInt8.toInt32)), .val (.int (((pt.toUInt32 >>> ((24 : Int32) &&& 31).toUInt32).toInt32).toInt8.toInt32))] [(.int (4 : Int32))]))
    refine own_go (XS.iconst X0.here hx rfl (hb hby own_pattern_24) (Steps.refl _)) ?_
    show own_Go p e below _ (s₁.setTop (mkF m 25 #[.val (.int pt), .val (.int (4 : Int32)), .val (.int (pt.toInt8.toInt32)), .val (.int (((pt.toUInt32 >>> ((8 : Int32) &&& 31).toUInt32).toInt32).toInt8.toInt32)), .val (.int (((pt.toUInt32 >>> ((16 : Int32) &&& 31).toUInt32).toInt32).toInt8.toInt32)), .val (.int (((pt.toUInt32 >>> ((24 : Int32) &&& 31).toUInt32).toInt32).toInt8.toInt32))] [(.int (1 : Int32)), (.int (4 : Int32))]))
    refine own_go (XS.icmpYes X0.here hx rfl (pc0 := 25) (pc' := 36) rfl (hb hby own_pattern_25) rfl (feq (by decide : ¬ ((4 : Int32) = (1 : Int32)))).2 (by decide) (by decide) (Steps.refl _)) ?_
    show own_Go p e below _ (s₁.setTop (mkF m 36 #[.val (.int pt), .val (.int (4 : Int32)), .val (.int (pt.toInt8.toInt32)), .val (.int (((pt.toUInt32 >>> ((8 : Int32) &&& 31).toUInt32).toInt32).toInt8.toInt32)), .val (.int (((pt.toUInt32 >>> ((16 : Int32) &&& 31).toUInt32).toInt32).toInt8.toInt32)), .val (.int (((pt.toUInt32 >>> ((24 : Int32) &&& 31).toUInt32).toInt32).toInt8.toInt32))] []))
    refine own_go (XS.iloadN X0.here hx rfl (hb hby own_pattern_36) rfl (Steps.refl _)) ?_
    show own_Go p e below _ (s₁.setTop (mkF m 37 #[.val (.int pt), .val (.int (4 : Int32)), .val (.int (pt.toInt8.toInt32)), .val (.int (((pt.toUInt32 >>> ((8 : Int32) &&& 31).toUInt32).toInt32).toInt8.toInt32)), .val (.int (((pt.toUInt32 >>> ((16 : Int32) &&& 31).toUInt32).toInt32).toInt8.toInt32)), .val (.int (((pt.toUInt32 >>> ((24 : Int32) &&& 31).toUInt32).toInt32).toInt8.toInt32))] [(.int (4 : Int32))]))
    refine own_go (XS.iconst X0.here hx rfl (hb hby own_pattern_37) (Steps.refl _)) ?_
    show own_Go p e below _ (s₁.setTop (mkF m 38 #[.val (.int pt), .val (.int (4 : Int32)), .val (.int (pt.toInt8.toInt32)), .val (.int (((pt.toUInt32 >>> ((8 : Int32) &&& 31).toUInt32).toInt32).toInt8.toInt32)), .val (.int (((pt.toUInt32 >>> ((16 : Int32) &&& 31).toUInt32).toInt32).toInt8.toInt32)), .val (.int (((pt.toUInt32 >>> ((24 : Int32) &&& 31).toUInt32).toInt32).toInt8.toInt32))] [(.int (2 : Int32)), (.int (4 : Int32))]))
    refine own_go (XS.icmpYes X0.here hx rfl (pc0 := 38) (pc' := 53) rfl (hb hby own_pattern_38) rfl (feq (by decide : ¬ ((4 : Int32) = (2 : Int32)))).2 (by decide) (by decide) (Steps.refl _)) ?_
    show own_Go p e below _ (s₁.setTop (mkF m 53 #[.val (.int pt), .val (.int (4 : Int32)), .val (.int (pt.toInt8.toInt32)), .val (.int (((pt.toUInt32 >>> ((8 : Int32) &&& 31).toUInt32).toInt32).toInt8.toInt32)), .val (.int (((pt.toUInt32 >>> ((16 : Int32) &&& 31).toUInt32).toInt32).toInt8.toInt32)), .val (.int (((pt.toUInt32 >>> ((24 : Int32) &&& 31).toUInt32).toInt32).toInt8.toInt32))] []))
    refine own_go (XS.iloadN X0.here hx rfl (hb hby own_pattern_53) rfl (Steps.refl _)) ?_
    show own_Go p e below _ (s₁.setTop (mkF m 54 #[.val (.int pt), .val (.int (4 : Int32)), .val (.int (pt.toInt8.toInt32)), .val (.int (((pt.toUInt32 >>> ((8 : Int32) &&& 31).toUInt32).toInt32).toInt8.toInt32)), .val (.int (((pt.toUInt32 >>> ((16 : Int32) &&& 31).toUInt32).toInt32).toInt8.toInt32)), .val (.int (((pt.toUInt32 >>> ((24 : Int32) &&& 31).toUInt32).toInt32).toInt8.toInt32))] [(.int (4 : Int32))]))
    refine own_go (XS.iconst X0.here hx rfl (hb hby own_pattern_54) (Steps.refl _)) ?_
    show own_Go p e below _ (s₁.setTop (mkF m 55 #[.val (.int pt), .val (.int (4 : Int32)), .val (.int (pt.toInt8.toInt32)), .val (.int (((pt.toUInt32 >>> ((8 : Int32) &&& 31).toUInt32).toInt32).toInt8.toInt32)), .val (.int (((pt.toUInt32 >>> ((16 : Int32) &&& 31).toUInt32).toInt32).toInt8.toInt32)), .val (.int (((pt.toUInt32 >>> ((24 : Int32) &&& 31).toUInt32).toInt32).toInt8.toInt32))] [(.int (3 : Int32)), (.int (4 : Int32))]))
    refine own_go (XS.icmpYes X0.here hx rfl (pc0 := 55) (pc' := 75) rfl (hb hby own_pattern_55) rfl (feq (by decide : ¬ ((4 : Int32) = (3 : Int32)))).2 (by decide) (by decide) (Steps.refl _)) ?_
    show own_Go p e below _ (s₁.setTop (mkF m 75 #[.val (.int pt), .val (.int (4 : Int32)), .val (.int (pt.toInt8.toInt32)), .val (.int (((pt.toUInt32 >>> ((8 : Int32) &&& 31).toUInt32).toInt32).toInt8.toInt32)), .val (.int (((pt.toUInt32 >>> ((16 : Int32) &&& 31).toUInt32).toInt32).toInt8.toInt32)), .val (.int (((pt.toUInt32 >>> ((24 : Int32) &&& 31).toUInt32).toInt32).toInt8.toInt32))] []))
    refine own_go (XS.iconst X0.here hx rfl (hb hby own_pattern_75) (Steps.refl _)) ?_
    show own_Go p e below _ (s₁.setTop (mkF m 76 #[.val (.int pt), .val (.int (4 : Int32)), .val (.int (pt.toInt8.toInt32)), .val (.int (((pt.toUInt32 >>> ((8 : Int32) &&& 31).toUInt32).toInt32).toInt8.toInt32)), .val (.int (((pt.toUInt32 >>> ((16 : Int32) &&& 31).toUInt32).toInt32).toInt8.toInt32)), .val (.int (((pt.toUInt32 >>> ((24 : Int32) &&& 31).toUInt32).toInt32).toInt8.toInt32))] [(.int (4 : Int32))]))
    obtain ⟨T10, h10, c10, b10, g10, X10, e10, E10, V10', A10, st10⟩ := own_newPE X0 hx hZ (hw _ (List.mem_of_getElem? (i := 15) rfl)) e0 (g := (mkF m 76 #[.val (.int pt), .val (.int (4 : Int32)), .val (.int (pt.toInt8.toInt32)), .val (.int (((pt.toUInt32 >>> ((8 : Int32) &&& 31).toUInt32).toInt32).toInt8.toInt32)), .val (.int (((pt.toUInt32 >>> ((16 : Int32) &&& 31).toUInt32).toInt32).toInt8.toInt32)), .val (.int (((pt.toUInt32 >>> ((24 : Int32) &&& 31).toUInt32).toInt32).toInt8.toInt32))] [(.int (4 : Int32))])) rfl (hb hby own_pattern_76) rfl (by decide) (cap := 4) (by decide) (by decide) (by decide) (by decide) (ad := "[B") (by decide)
    have V10 : Arv Z h10 b10 c10 .byte (4 : Int32) [(.int (0 : Int32)), (.int (0 : Int32)), (.int (0 : Int32)), (.int (0 : Int32))] (.int (0 : Int32)) := V10'
    have ge_b10 : n0 ≤ b10 := Nat.le_trans Z0 (Nat.le_of_eq g10.symm)
    have sz_b10 : h0.size ≤ b10 := Nat.le_trans (Keep.refl h0 []).1 (Nat.le_of_eq g10.symm)
    have Zl10 : n0 ≤ h10.size := Nat.le_trans Z0 E10.1
    have K10 : Keep h0 h10 [] := (Keep.refl h0 []).ext E10
    refine own_go st10 ?_
    show own_Go p e below _ (T10.setTop (mkF m 78 #[.val (.int pt), .val (.int (4 : Int32)), .val (.int (pt.toInt8.toInt32)), .val (.int (((pt.toUInt32 >>> ((8 : Int32) &&& 31).toUInt32).toInt32).toInt8.toInt32)), .val (.int (((pt.toUInt32 >>> ((16 : Int32) &&& 31).toUInt32).toInt32).toInt8.toInt32)), .val (.int (((pt.toUInt32 >>> ((24 : Int32) &&& 31).toUInt32).toInt32).toInt8.toInt32))] [(.ref b10)]))
    refine own_go (XS.dup X10.here hx rfl (hb hby own_pattern_78) rfl rfl (Steps.refl _)) ?_
    show own_Go p e below _ (T10.setTop (mkF m 79 #[.val (.int pt), .val (.int (4 : Int32)), .val (.int (pt.toInt8.toInt32)), .val (.int (((pt.toUInt32 >>> ((8 : Int32) &&& 31).toUInt32).toInt32).toInt8.toInt32)), .val (.int (((pt.toUInt32 >>> ((16 : Int32) &&& 31).toUInt32).toInt32).toInt8.toInt32)), .val (.int (((pt.toUInt32 >>> ((24 : Int32) &&& 31).toUInt32).toInt32).toInt8.toInt32))] [(.ref b10), (.ref b10)]))
    refine own_go (XS.iconst X10.here hx rfl (hb hby own_pattern_79) (Steps.refl _)) ?_
    show own_Go p e below _ (T10.setTop (mkF m 80 #[.val (.int pt), .val (.int (4 : Int32)), .val (.int (pt.toInt8.toInt32)), .val (.int (((pt.toUInt32 >>> ((8 : Int32) &&& 31).toUInt32).toInt32).toInt8.toInt32)), .val (.int (((pt.toUInt32 >>> ((16 : Int32) &&& 31).toUInt32).toInt32).toInt8.toInt32)), .val (.int (((pt.toUInt32 >>> ((24 : Int32) &&& 31).toUInt32).toInt32).toInt8.toInt32))] [(.int (0 : Int32)), (.ref b10), (.ref b10)]))
    refine own_go (XS.iloadN X10.here hx rfl (hb hby own_pattern_80) rfl (Steps.refl _)) ?_
    show own_Go p e below _ (T10.setTop (mkF m 81 #[.val (.int pt), .val (.int (4 : Int32)), .val (.int (pt.toInt8.toInt32)), .val (.int (((pt.toUInt32 >>> ((8 : Int32) &&& 31).toUInt32).toInt32).toInt8.toInt32)), .val (.int (((pt.toUInt32 >>> ((16 : Int32) &&& 31).toUInt32).toInt32).toInt8.toInt32)), .val (.int (((pt.toUInt32 >>> ((24 : Int32) &&& 31).toUInt32).toInt32).toInt8.toInt32))] [(.int (pt.toInt8.toInt32)), (.int (0 : Int32)), (.ref b10), (.ref b10)]))
    obtain ⟨T11, h11, X11, e11, W11, V11', st11⟩ := own_stB X10 hx hZ e10 V10 (by decide) (by decide) (g := (mkF m 81 #[.val (.int pt), .val (.int (4 : Int32)), .val (.int (pt.toInt8.toInt32)), .val (.int (((pt.toUInt32 >>> ((8 : Int32) &&& 31).toUInt32).toInt32).toInt8.toInt32)), .val (.int (((pt.toUInt32 >>> ((16 : Int32) &&& 31).toUInt32).toInt32).toInt8.toInt32)), .val (.int (((pt.toUInt32 >>> ((24 : Int32) &&& 31).toUInt32).toInt32).toInt8.toInt32))] [(.int (pt.toInt8.toInt32)), (.int (0 : Int32)), (.ref b10), (.ref b10)])) rfl rfl (hb hby own_pattern_81) (i := 0) rfl (Nat.le_of_ble_eq_true rfl)
    have V11 : Arv Z h11 b10 c10 .byte (4 : Int32) [(.int (nar .byte (pt.toInt8.toInt32))), (.int (0 : Int32)), (.int (0 : Int32)), (.int (0 : Int32))] (.int (0 : Int32)) := V11'
    have N11 := Fr.snoc X11 (Fr.nil n0) ge_b10
    have Zl11 : n0 ≤ h11.size := Nat.le_trans Zl10 (Keep.of_wr W11).1
    have K11 : Keep h0 h11 [] := K10.wr W11 (Or.inr sz_b10)
    refine own_go st11 ?_
    show own_Go p e below _ (T11.setTop (mkF m 82 #[.val (.int pt), .val (.int (4 : Int32)), .val (.int (pt.toInt8.toInt32)), .val (.int (((pt.toUInt32 >>> ((8 : Int32) &&& 31).toUInt32).toInt32).toInt8.toInt32)), .val (.int (((pt.toUInt32 >>> ((16 : Int32) &&& 31).toUInt32).toInt32).toInt8.toInt32)), .val (.int (((pt.toUInt32 >>> ((24 : Int32) &&& 31).toUInt32).toInt32).toInt8.toInt32))] [(.ref b10)]))
    refine own_go (XS.dup X11.here hx rfl (hb hby own_pattern_82) rfl rfl (Steps.refl _)) ?_
    show own_Go p e below _ (T11.setTop (mkF m 83 #[.val (.int pt), .val (.int (4 : Int32)), .val (.int (pt.toInt8.toInt32)), .val (.int (((pt.toUInt32 >>> ((8 : Int32) &&& 31).toUInt32).toInt32).toInt8.toInt32)), .val (.int (((pt.toUInt32 >>> ((16 : Int32) &&& 31).toUInt32).toInt32).toInt8.toInt32)), .val (.int (((pt.toUInt32 >>> ((24 : Int32) &&& 31).toUInt32).toInt32).toInt8.toInt32))] [(.ref b10), (.ref b10)]))
    refine own_go (XS.iconst X11.here hx rfl (hb hby own_pattern_83) (Steps.refl _)) ?_
    show own_Go p e below _ (T11.setTop (mkF m 84 #[.val (.int pt), .val (.int (4 : Int32)), .val (.int (pt.toInt8.toInt32)), .val (.int (((pt.toUInt32 >>> ((8 : Int32) &&& 31).toUInt32).toInt32).toInt8.toInt32)), .val (.int (((pt.toUInt32 >>> ((16 : Int32) &&& 31).toUInt32).toInt32).toInt8.toInt32)), .val (.int (((pt.toUInt32 >>> ((24 : Int32) &&& 31).toUInt32).toInt32).toInt8.toInt32))] [(.int (1 : Int32)), (.ref b10), (.ref b10)]))
    refine own_go (XS.iloadN X11.here hx rfl (hb hby own_pattern_84) rfl (Steps.refl _)) ?_
    show own_Go p e below _ (T11.setTop (mkF m 85 #[.val (.int pt), .val (.int (4 : Int32)), .val (.int (pt.toInt8.toInt32)), .val (.int (((pt.toUInt32 >>> ((8 : Int32) &&& 31).toUInt32).toInt32).toInt8.toInt32)), .val (.int (((pt.toUInt32 >>> ((16 : Int32) &&& 31).toUInt32).toInt32).toInt8.toInt32)), .val (.int (((pt.toUInt32 >>> ((24 : Int32) &&& 31).toUInt32).toInt32).toInt8.toInt32))] [(.int (((pt.toUInt32 >>> ((8 : Int32) &&& 31).toUInt32).toInt32).toInt8.toInt32)), (.int (1 : Int32)), (.ref b10), (.ref b10)]))
    obtain ⟨T12, h12, X12, e12, W12, V12', st12⟩ := own_stB X11 hx hZ e11 V11 (by decide) (by decide) (g := (mkF m 85 #[.val (.int pt), .val (.int (4 : Int32)), .val (.int (pt.toInt8.toInt32)), .val (.int (((pt.toUInt32 >>> ((8 : Int32) &&& 31).toUInt32).toInt32).toInt8.toInt32)), .val (.int (((pt.toUInt32 >>> ((16 : Int32) &&& 31).toUInt32).toInt32).toInt8.toInt32)), .val (.int (((pt.toUInt32 >>> ((24 : Int32) &&& 31).toUInt32).toInt32).toInt8.toInt32))] [(.int (((pt.toUInt32 >>> ((8 : Int32) &&& 31).toUInt32).toInt32).toInt8.toInt32)), (.int (1 : Int32)), (.ref b10), (.ref b10)])) rfl rfl (hb hby own_pattern_85) (i := 1) rfl (Nat.le_of_ble_eq_true rfl)
    have V12 : Arv Z h12 b10 c10 .byte (4 : Int32) [(.int (nar .byte (pt.toInt8.toInt32))), (.int (nar .byte (((pt.toUInt32 >>> ((8 : Int32) &&& 31).toUInt32).toInt32).toInt8.toInt32))), (.int (0 : Int32)), (.int (0 : Int32))] (.int (0 : Int32)) := V12'
    have N12 := Fr.snoc X12 N11 ge_b10
    have Zl12 : n0 ≤ h12.size := Nat.le_trans Zl11 (Keep.of_wr W12).1
    have K12 : Keep h0 h12 [] := K11.wr W12 (Or.inr sz_b10)
    refine own_go st12 ?_
    show own_Go p e below _ (T12.setTop (mkF m 86 #[.val (.int pt), .val (.int (4 : Int32)), .val (.int (pt.toInt8.toInt32)), .val (.int (((pt.toUInt32 >>> ((8 : Int32) &&& 31).toUInt32).toInt32).toInt8.toInt32)), .val (.int (((pt.toUInt32 >>> ((16 : Int32) &&& 31).toUInt32).toInt32).toInt8.toInt32)), .val (.int (((pt.toUInt32 >>> ((24 : Int32) &&& 31).toUInt32).toInt32).toInt8.toInt32))] [(.ref b10)]))
    refine own_go (XS.dup X12.here hx rfl (hb hby own_pattern_86) rfl rfl (Steps.refl _)) ?_
    show own_Go p e below _ (T12.setTop (mkF m 87 #[.val (.int pt), .val (.int (4 : Int32)), .val (.int (pt.toInt8.toInt32)), .val (.int (((pt.toUInt32 >>> ((8 : Int32) &&& 31).toUInt32).toInt32).toInt8.toInt32)), .val (.int (((pt.toUInt32 >>> ((16 : Int32) &&& 31).toUInt32).toInt32).toInt8.toInt32)), .val (.int (((pt.toUInt32 >>> ((24 : Int32) &&& 31).toUInt32).toInt32).toInt8.toInt32))] [(.ref b10), (.ref b10)]))
    refine own_go (XS.iconst X12.here hx rfl (hb hby own_pattern_87) (Steps.refl _)) ?_
    show own_Go p e below _ (T12.setTop (mkF m 88 #[.val (.int pt), .val (.int (4 : Int32)), .val (.int (pt.toInt8.toInt32)), .val (.int (((pt.toUInt32 >>> ((8 : Int32) &&& 31).toUInt32).toInt32).toInt8.toInt32)), .val (.int (((pt.toUInt32 >>> ((16 : Int32) &&& 31).toUInt32).toInt32).toInt8.toInt32)), .val (.int (((pt.toUInt32 >>> ((24 : Int32) &&& 31).toUInt32).toInt32).toInt8.toInt32))] [(.int (2 : Int32)), (.ref b10), (.ref b10)]))
    refine own_go (XS.iload X12.here hx rfl (hb hby own_pattern_88) rfl (Steps.refl _)) ?_
    show own_Go p e below _ (T12.setTop (mkF m 90 #[.val (.int pt), .val (.int (4 : Int32)), .val (.int (pt.toInt8.toInt32)), .val (.int (((pt.toUInt32 >>> ((8 : Int32) &&& 31).toUInt32).toInt32).toInt8.toInt32)), .val (.int (((pt.toUInt32 >>> ((16 : Int32) &&& 31).toUInt32).toInt32).toInt8.toInt32)), .val (.int (((pt.toUInt32 >>> ((24 : Int32) &&& 31).toUInt32).toInt32).toInt8.toInt32))] [(.int (((pt.toUInt32 >>> ((16 : Int32) &&& 31).toUInt32).toInt32).toInt8.toInt32)), (.int (2 : Int32)), (.ref b10), (.ref b10)]))
    obtain ⟨T13, h13, X13, e13, W13, V13', st13⟩ := own_stB X12 hx hZ e12 V12 (by decide) (by decide) (g := (mkF m 90 #[.val (.int pt), .val (.int (4 : Int32)), .val (.int (pt.toInt8.toInt32)), .val (.int (((pt.toUInt32 >>> ((8 : Int32) &&& 31).toUInt32).toInt32).toInt8.toInt32)), .val (.int (((pt.toUInt32 >>> ((16 : Int32) &&& 31).toUInt32).toInt32).toInt8.toInt32)), .val (.int (((pt.toUInt32 >>> ((24 : Int32) &&& 31).toUInt32).toInt32).toInt8.toInt32))] [(.int (((pt.toUInt32 >>> ((16 : Int32) &&& 31).toUInt32).toInt32).toInt8.toInt32)), (.int (2 : Int32)), (.ref b10), (.ref b10)])) rfl rfl (hb hby own_pattern_90) (i := 2) rfl (Nat.le_of_ble_eq_true rfl)
    have V13 : Arv Z h13 b10 c10 .byte (4 : Int32) [(.int (nar .byte (pt.toInt8.toInt32))), (.int (nar .byte (((pt.toUInt32 >>> ((8 : Int32) &&& 31).toUInt32).toInt32).toInt8.toInt32))), (.int (nar .byte (((pt.toUInt32 >>> ((16 : Int32) &&& 31).toUInt32).toInt32).toInt8.toInt32))), (.int (0 : Int32))] (.int (0 : Int32)) := V13'
    have N13 := Fr.snoc X13 N12 ge_b10
    have Zl13 : n0 ≤ h13.size := Nat.le_trans Zl12 (Keep.of_wr W13).1
    have K13 : Keep h0 h13 [] := K12.wr W13 (Or.inr sz_b10)
    refine own_go st13 ?_
    show own_Go p e below _ (T13.setTop (mkF m 91 #[.val (.int pt), .val (.int (4 : Int32)), .val (.int (pt.toInt8.toInt32)), .val (.int (((pt.toUInt32 >>> ((8 : Int32) &&& 31).toUInt32).toInt32).toInt8.toInt32)), .val (.int (((pt.toUInt32 >>> ((16 : Int32) &&& 31).toUInt32).toInt32).toInt8.toInt32)), .val (.int (((pt.toUInt32 >>> ((24 : Int32) &&& 31).toUInt32).toInt32).toInt8.toInt32))] [(.ref b10)]))
    refine own_go (XS.dup X13.here hx rfl (hb hby own_pattern_91) rfl rfl (Steps.refl _)) ?_
    show own_Go p e below _ (T13.setTop (mkF m 92 #[.val (.int pt), .val (.int (4 : Int32)), .val (.int (pt.toInt8.toInt32)), .val (.int (((pt.toUInt32 >>> ((8 : Int32) &&& 31).toUInt32).toInt32).toInt8.toInt32)), .val (.int (((pt.toUInt32 >>> ((16 : Int32) &&& 31).toUInt32).toInt32).toInt8.toInt32)), .val (.int (((pt.toUInt32 >>> ((24 : Int32) &&& 31).toUInt32).toInt32).toInt8.toInt32))] [(.ref b10), (.ref b10)]))
    refine own_go (XS.iconst X13.here hx rfl (hb hby own_pattern_92) (Steps.refl _)) ?_
    show own_Go p e below _ (T13.setTop (mkF m 93 #[.val (.int pt), .val (.int (4 : Int32)), .val (.int (pt.toInt8.toInt32)), .val (.int (((pt.toUInt32 >>> ((8 : Int32) &&& 31).toUInt32).toInt32).toInt8.toInt32)), .val (.int (((pt.toUInt32 >>> ((16 : Int32) &&& 31).toUInt32).toInt32).toInt8.toInt32)), .val (.int (((pt.toUInt32 >>> ((24 : Int32) &&& 31).toUInt32).toInt32).toInt8.toInt32))] [(.int (3 : Int32)), (.ref b10), (.ref b10)]))
    refine own_go (XS.iload X13.here hx rfl (hb hby own_pattern_93) rfl (Steps.refl _)) ?_
    show own_Go p e below _ (T13.setTop (mkF m 95 #[.val (.int pt), .val (.int (4 : Int32)), .val (.int (pt.toInt8.toInt32)), .val (.int (((pt.toUInt32 >>> ((8 : Int32) &&& 31).toUInt32).toInt32).toInt8.toInt32)), .val (.int (((pt.toUInt32 >>> ((16 : Int32) &&& 31).toUInt32).toInt32).toInt8.toInt32)), .val (.int (((pt.toUInt32 >>> ((24 : Int32) &&& 31).toUInt32).toInt32).toInt8.toInt32))] [(.int (((pt.toUInt32 >>> ((24 : Int32) &&& 31).toUInt32).toInt32).toInt8.toInt32)), (.int (3 : Int32)), (.ref b10), (.ref b10)]))
    obtain ⟨T14, h14, X14, e14, W14, V14', st14⟩ := own_stB X13 hx hZ e13 V13 (by decide) (by decide) (g := (mkF m 95 #[.val (.int pt), .val (.int (4 : Int32)), .val (.int (pt.toInt8.toInt32)), .val (.int (((pt.toUInt32 >>> ((8 : Int32) &&& 31).toUInt32).toInt32).toInt8.toInt32)), .val (.int (((pt.toUInt32 >>> ((16 : Int32) &&& 31).toUInt32).toInt32).toInt8.toInt32)), .val (.int (((pt.toUInt32 >>> ((24 : Int32) &&& 31).toUInt32).toInt32).toInt8.toInt32))] [(.int (((pt.toUInt32 >>> ((24 : Int32) &&& 31).toUInt32).toInt32).toInt8.toInt32)), (.int (3 : Int32)), (.ref b10), (.ref b10)])) rfl rfl (hb hby own_pattern_95) (i := 3) rfl (Nat.le_of_ble_eq_true rfl)
    have V14 : Arv Z h14 b10 c10 .byte (4 : Int32) [(.int (nar .byte (pt.toInt8.toInt32))), (.int (nar .byte (((pt.toUInt32 >>> ((8 : Int32) &&& 31).toUInt32).toInt32).toInt8.toInt32))), (.int (nar .byte (((pt.toUInt32 >>> ((16 : Int32) &&& 31).toUInt32).toInt32).toInt8.toInt32))), (.int (nar .byte (((pt.toUInt32 >>> ((24 : Int32) &&& 31).toUInt32).toInt32).toInt8.toInt32)))] (.int (0 : Int32)) := V14'
    have N14 := Fr.snoc X14 N13 ge_b10
    have Zl14 : n0 ≤ h14.size := Nat.le_trans Zl13 (Keep.of_wr W14).1
    have K14 : Keep h0 h14 [] := K13.wr W14 (Or.inr sz_b10)
    refine own_go st14 ?_
    show own_Go p e below _ (T14.setTop (mkF m 96 #[.val (.int pt), .val (.int (4 : Int32)), .val (.int (pt.toInt8.toInt32)), .val (.int (((pt.toUInt32 >>> ((8 : Int32) &&& 31).toUInt32).toInt32).toInt8.toInt32)), .val (.int (((pt.toUInt32 >>> ((16 : Int32) &&& 31).toUInt32).toInt32).toInt8.toInt32)), .val (.int (((pt.toUInt32 >>> ((24 : Int32) &&& 31).toUInt32).toInt32).toInt8.toInt32))] [(.ref b10)]))
    exact own_retA X14 hx hlk e14 Bd.returns rfl (hb hby own_pattern_96) ⟨b10, c10, rfl, N14, K14, sz_b10, V14, ((((A10.wr W11).wr W12).wr W13).wr W14)⟩ (by decide) (by decide)
theorem own_init7_0 : decode prog_116_method_1_code 0 = .ok (.aload_n 0, 1) := by decide +kernel
theorem own_init7_1 : decode prog_116_method_1_code 1 = .ok (.invokespecial 1, 3) := by decide +kernel
theorem own_init7_4 : decode prog_116_method_1_code 4 = .ok (.aload_n 1, 1) := by decide +kernel
theorem own_init7_5 : decode prog_116_method_1_code 5 = .ok (.arraylength, 1) := by decide +kernel
theorem own_init7_6 : decode prog_116_method_1_code 6 = .ok (.ifCond .ne 13, 3) := by decide +kernel
theorem own_init7_9 : decode prog_116_method_1_code 9 = .ok (.new 7, 3) := by decide +kernel
theorem own_init7_12 : decode prog_116_method_1_code 12 = .ok (.dup, 1) := by decide +kernel
theorem own_init7_13 : decode prog_116_method_1_code 13 = .ok (.ldc 9, 2) := by decide +kernel
theorem own_init7_15 : decode prog_116_method_1_code 15 = .ok (.invokespecial 11, 3) := by decide +kernel
theorem own_init7_18 : decode prog_116_method_1_code 18 = .ok (.athrow, 1) := by decide +kernel
theorem own_init7_19 : decode prog_116_method_1_code 19 = .ok (.aload_n 0, 1) := by decide +kernel
theorem own_init7_20 : decode prog_116_method_1_code 20 = .ok (.aload_n 1, 1) := by decide +kernel
theorem own_init7_21 : decode prog_116_method_1_code 21 = .ok (.invokevirtual 14, 3) := by decide +kernel
theorem own_init7_24 : decode prog_116_method_1_code 24 = .ok (.checkcast 15, 3) := by decide +kernel
theorem own_init7_27 : decode prog_116_method_1_code 27 = .ok (.putfield 20, 3) := by decide +kernel
theorem own_init7_30 : decode prog_116_method_1_code 30 = .ok (.aload_n 0, 1) := by decide +kernel
theorem own_init7_31 : decode prog_116_method_1_code 31 = .ok (.aload_n 1, 1) := by decide +kernel
theorem own_init7_32 : decode prog_116_method_1_code 32 = .ok (.arraylength, 1) := by decide +kernel
theorem own_init7_33 : decode prog_116_method_1_code 33 = .ok (.newarray .int, 2) := by decide +kernel
theorem own_init7_35 : decode prog_116_method_1_code 35 = .ok (.putfield 25, 3) := by decide +kernel
theorem own_init7_38 : decode prog_116_method_1_code 38 = .ok (.iconst 0, 1) := by decide +kernel
theorem own_init7_39 : decode prog_116_method_1_code 39 = .ok (.istore_n 2, 1) := by decide +kernel
theorem own_init7_40 : decode prog_116_method_1_code 40 = .ok (.iconst 1, 1) := by decide +kernel
theorem own_init7_41 : decode prog_116_method_1_code 41 = .ok (.istore_n 3, 1) := by decide +kernel
theorem own_init7_42 : decode prog_116_method_1_code 42 = .ok (.iload_n 3, 1) := by decide +kernel
theorem own_init7_43 : decode prog_116_method_1_code 43 = .ok (.aload_n 1, 1) := by decide +kernel
theorem own_init7_44 : decode prog_116_method_1_code 44 = .ok (.arraylength, 1) := by decide +kernel
theorem own_init7_45 : decode prog_116_method_1_code 45 = .ok (.if_icmp .ge 53, 3) := by decide +kernel
theorem own_init7_48 : decode prog_116_method_1_code 48 = .ok (.iload_n 2, 1) := by decide +kernel
theorem own_init7_49 : decode prog_116_method_1_code 49 = .ok (.ifCond .le 24, 3) := by decide +kernel
theorem own_init7_52 : decode prog_116_method_1_code 52 = .ok (.aload_n 1, 1) := by decide +kernel
theorem own_init7_53 : decode prog_116_method_1_code 53 = .ok (.iload_n 3, 1) := by decide +kernel
theorem own_init7_54 : decode prog_116_method_1_code 54 = .ok (.baload, 1) := by decide +kernel
theorem own_init7_55 : decode prog_116_method_1_code 55 = .ok (.aload_n 1, 1) := by decide +kernel
theorem own_init7_56 : decode prog_116_method_1_code 56 = .ok (.iload_n 2, 1) := by decide +kernel
theorem own_init7_57 : decode prog_116_method_1_code 57 = .ok (.baload, 1) := by decide +kernel
theorem own_init7_58 : decode prog_116_method_1_code 58 = .ok (.if_icmp .eq 15, 3) := by decide +kernel
theorem own_init7_61 : decode prog_116_method_1_code 61 = .ok (.aload_n 0, 1) := by decide +kernel
theorem own_init7_62 : decode prog_116_method_1_code 62 = .ok (.getfield 25, 3) := by decide +kernel
theorem own_init7_65 : decode prog_116_method_1_code 65 = .ok (.iload_n 2, 1) := by decide +kernel
theorem own_init7_66 : decode prog_116_method_1_code 66 = .ok (.iconst 1, 1) := by decide +kernel
theorem own_init7_67 : decode prog_116_method_1_code 67 = .ok (.isub, 1) := by decide +kernel
theorem own_init7_68 : decode prog_116_method_1_code 68 = .ok (.iaload, 1) := by decide +kernel
theorem own_init7_69 : decode prog_116_method_1_code 69 = .ok (.istore_n 2, 1) := by decide +kernel
theorem own_init7_70 : decode prog_116_method_1_code 70 = .ok (.goto (-22), 3) := by decide +kernel
theorem own_init7_73 : decode prog_116_method_1_code 73 = .ok (.aload_n 1, 1) := by decide +kernel
theorem own_init7_74 : decode prog_116_method_1_code 74 = .ok (.iload_n 3, 1) := by decide +kernel
theorem own_init7_75 : decode prog_116_method_1_code 75 = .ok (.baload, 1) := by decide +kernel
theorem own_init7_76 : decode prog_116_method_1_code 76 = .ok (.aload_n 1, 1) := by decide +kernel
theorem own_init7_77 : decode prog_116_method_1_code 77 = .ok (.iload_n 2, 1) := by decide +kernel
theorem own_init7_78 : decode prog_116_method_1_code 78 = .ok (.baload, 1) := by decide +kernel
theorem own_init7_79 : decode prog_116_method_1_code 79 = .ok (.if_icmp .ne 6, 3) := by decide +kernel
theorem own_init7_82 : decode prog_116_method_1_code 82 = .ok (.iinc 2 1, 3) := by decide +kernel
theorem own_init7_85 : decode prog_116_method_1_code 85 = .ok (.aload_n 0, 1) := by decide +kernel
theorem own_init7_86 : decode prog_116_method_1_code 86 = .ok (.getfield 25, 3) := by decide +kernel
theorem own_init7_89 : decode prog_116_method_1_code 89 = .ok (.iload_n 3, 1) := by decide +kernel
theorem own_init7_90 : decode prog_116_method_1_code 90 = .ok (.iload_n 2, 1) := by decide +kernel
theorem own_init7_91 : decode prog_116_method_1_code 91 = .ok (.iastore, 1) := by decide +kernel
theorem own_init7_92 : decode prog_116_method_1_code 92 = .ok (.iinc 3 1, 3) := by decide +kernel
theorem own_init7_95 : decode prog_116_method_1_code 95 = .ok (.goto (-53), 3) := by decide +kernel
theorem own_init7_98 : decode prog_116_method_1_code 98 = .ok (.return_, 1) := by decide +kernel
theorem own_f8 : plainName "com/example/crossweave/crossweave/soap/OctetPattern" = true := by first | (simp [plainName, overriddenIn]; done) | decide +kernel
theorem own_f9 : parseMethodDescriptor "()V" = some ⟨[], none⟩ := by decide +kernel
theorem own_f10 : parseMethodDescriptor "()Ljava/lang/Object;" = some ⟨[], some (.object "java/lang/Object")⟩ := by decide +kernel
theorem own_f11 (m : MethodId) (x0 : Addr) (x1 : Addr) : entryFrame m #[(.ref x0), (.ref x1)] 4 = mkF m 0 #[.val (.ref x0), .val (.ref x1), .unset, .unset] [] := by first | (simp [entryFrame, mkF, argsToLocals, Value.category]; done) | rfl
set_option maxRecDepth 65536 in
set_option maxHeartbeats 40000000 in
theorem rm_init (l : Launch) (Z : State) (a0 : Array Value) (hw : ∀ d ∈ tables_1, d.before a0 Z = true) (a ab : Addr) (kb : ClassId) (B : Nat → Int32) (n : Nat) (h0 : Heap) (n0 : Nat) (Z0 : n0 ≤ h0.size) (hn : 1 ≤ n) (hn4 : n ≤ 4) (A : Exa Z h0 a "com/example/crossweave/crossweave/soap/OctetPattern") (ge_a : n0 ≤ a) (F_oct : Fld Z h0 a "com/example/crossweave/crossweave/soap/OctetPattern" "octets" "[B" .null) (F_fal : Fld Z h0 a "com/example/crossweave/crossweave/soap/OctetPattern" "fallback" "[I" .null) (Vb : Arv Z h0 ab kb .byte (Int32.ofNat n) (own_vN B n) (.int (0 : Int32))) (Ab : Exa Z h0 ab "[B") (ne_a_ab : a ≠ ab) :
    own_Met l Z (⟨"com/example/crossweave/crossweave/soap/OctetPattern", "<init>", "([B)V"⟩ : MethodName) prog_116_method_1_code 4 none ({ frames := 1, cells := 2, slots := 8, locals := 15 } : Room) #[(.ref a), (.ref ab)] h0 (fun v h L => v = none ∧ Fr n0 L ∧ Keep h0 h [a] ∧ ∃ oa fa ko kf, Fld Z h a "com/example/crossweave/crossweave/soap/OctetPattern" "octets" "[B" (.ref oa) ∧ Fld Z h a "com/example/crossweave/crossweave/soap/OctetPattern" "fallback" "[I" (.ref fa) ∧ Arv Z h oa ko .byte (Int32.ofNat n) (own_vN B n) (.int (0 : Int32)) ∧ Arv Z h fa kf .int (Int32.ofNat n) (own_vN (fun j => Int32.ofNat ((own_Fs (own_Eq B) (n - 1)).1 j)) 4) (.int (0 : Int32))) := by
  refine MetFree.of_bodySF (plainFor_of_name own_f8) hisR ?_
  intro p e s m args below meth c s₁ Bd hml0 hP hK
  obtain ⟨rfl, hZ, hh⟩ := hP
  have hx := Bd.exec
  have hby := Bd.bytes
  have hlk : meth.locks = false := Bd.notSynchronized
  have hml : c.maxLocals = 4 := hml0
  have hown : s.vm.findClass "com/example/crossweave/crossweave/soap/OctetPattern" = some m.cls := findClass_of_methodNamed Bd.named
  have hnm := (name_of_methodNamed Bd.named Bd.method).1
  have X0 : Stand p l e ({ frames := 1, cells := 2, slots := 8, locals := 15 } : Room) s m #[(.ref a), (.ref ab)] below meth c s₁ [] 0 0 := Stand.of_body Bd
  have e0 : s₁.heap = h0 := by rw [← hh, Bd.state]; rfl
  show own_Go p e below (own_G s (fun v h L => v = none ∧ Fr n0 L ∧ Keep h0 h [a] ∧ ∃ oa fa ko kf, Fld Z h a "com/example/crossweave/crossweave/soap/OctetPattern" "octets" "[B" (.ref oa) ∧ Fld Z h a "com/example/crossweave/crossweave/soap/OctetPattern" "fallback" "[I" (.ref fa) ∧ Arv Z h oa ko .byte (Int32.ofNat n) (own_vN B n) (.int (0 : Int32)) ∧ Arv Z h fa kf .int (Int32.ofNat n) (own_vN (fun j => Int32.ofNat ((own_Fs (own_Eq B) (n - 1)).1 j)) 4) (.int (0 : Int32))) 2 8) (s₁.setTop (entryFrame m #[(.ref a), (.ref ab)] 4))
  rw [own_f11]
  show own_Go p e below _ (s₁.setTop (mkF m 0 #[.val (.ref a), .val (.ref ab), .unset, .unset] []))
  refine own_go (XS.aloadN X0.here hx rfl (hb hby own_init7_0) rfl rfl (Steps.refl _)) ?_
  show own_Go p e below _ (s₁.setTop (mkF m 1 #[.val (.ref a), .val (.ref ab), .unset, .unset] [(.ref a)]))
  obtain ⟨T15, X15, e15, st15⟩ := initO X0 hx hZ hown (hw _ (List.mem_of_getElem? (i := 19) rfl)) (hw _ (List.mem_of_getElem? (i := 20) rfl)) (hw _ (List.mem_of_getElem? (i := 21) rfl)) e0 (g := (mkF m 1 #[.val (.ref a), .val (.ref ab), .unset, .unset] [(.ref a)])) rfl (by rw [hml]; rfl) rfl (hb hby own_init7_1) (by decide) (W := 0) (by show 2 * 0 + _ ≤ _; exact Nat.le_of_eq rfl) (by decide)
  refine own_go (st15 _ (Steps.refl _)) ?_
  show own_Go p e below _ (T15.setTop (mkF m 4 #[.val (.ref a), .val (.ref ab), .unset, .unset] []))
  refine own_go (XS.aloadN X15.here hx rfl (hb hby own_init7_4) rfl rfl (Steps.refl _)) ?_
  show own_Go p e below _ (T15.setTop (mkF m 5 #[.val (.ref a), .val (.ref ab), .unset, .unset] [(.ref ab)]))
  refine own_go (own_len X15 hx hZ e15 Vb (g := (mkF m 5 #[.val (.ref a), .val (.ref ab), .unset, .unset] [(.ref ab)])) rfl rfl (hb hby own_init7_5)) ?_
  show own_Go p e below _ (T15.setTop (mkF m 6 #[.val (.ref a), .val (.ref ab), .unset, .unset] [(.int (Int32.ofNat n))]))
  refine own_go (XS.ifYes X15.here hx rfl (pc0 := 6) (pc' := 19) rfl (hb hby own_init7_6) rfl ((if0 _ _).trans (feq (own_nz (by omega) (by omega))).2) (by decide) (by decide) (Steps.refl _)) ?_
  show own_Go p e below _ (T15.setTop (mkF m 19 #[.val (.ref a), .val (.ref ab), .unset, .unset] []))
  refine own_go (XS.aloadN X15.here hx rfl (hb hby own_init7_19) rfl rfl (Steps.refl _)) ?_
  show own_Go p e below _ (T15.setTop (mkF m 20 #[.val (.ref a), .val (.ref ab), .unset, .unset] [(.ref a)]))
  refine own_go (XS.aloadN X15.here hx rfl (hb hby own_init7_20) rfl rfl (Steps.refl _)) ?_
  show own_Go p e below _ (T15.setTop (mkF m 21 #[.val (.ref a), .val (.ref ab), .unset, .unset] [(.ref ab), (.ref a)]))
  obtain ⟨T16, h16, b16, g16, X16, e16, E16, V16, A16, st16⟩ := own_clone X15 hx hZ hown (hw _ (List.mem_of_getElem? (i := 22) rfl)) (hw _ (List.mem_of_getElem? (i := 23) rfl)) (hw _ (List.mem_of_getElem? (i := 27) rfl)) (hw _ (List.mem_of_getElem? (i := 25) rfl)) (hw _ (List.mem_of_getElem? (i := 26) rfl)) (hw _ (List.mem_of_getElem? (i := 28) rfl)) e15 Vb Ab (g := (mkF m 21 #[.val (.ref a), .val (.ref ab), .unset, .unset] [(.ref ab), (.ref a)])) rfl (by rw [hml]; rfl) rfl (hb hby own_init7_21) (by decide) (W := 1) (cap := 4) (by show 2 * 0 + _ ≤ _; exact Nat.le_of_eq rfl) (by decide) (by rw [own_ix (by omega)]; exact hn4) (by decide) (by decide)
  have ne_a_b16 : a ≠ b16 := own_born A.lt g16
  have ne_ab_b16 : ab ≠ b16 := own_born Vb.lt g16
  have ge_b16 : n0 ≤ b16 := Nat.le_trans Z0 (Nat.le_of_eq g16.symm)
  have sz_b16 : h0.size ≤ b16 := Nat.le_trans (Keep.refl h0 [a]).1 (Nat.le_of_eq g16.symm)
  have Zl16 : n0 ≤ h16.size := Nat.le_trans Z0 E16.1
  have K16 : Keep h0 h16 [a] := (Keep.refl h0 [a]).ext E16
  refine own_go st16 ?_
  show own_Go p e below _ (T16.setTop (mkF m 24 #[.val (.ref a), .val (.ref ab), .unset, .unset] [(.ref b16), (.ref a)]))
  obtain ⟨T17, X17, e17, st17⟩ := castY X16 hx hZ hown (hw _ (List.mem_of_getElem? (i := 29) rfl)) e16 (Ins.self A16) (g := (mkF m 24 #[.val (.ref a), .val (.ref ab), .unset, .unset] [(.ref b16), (.ref a)])) rfl rfl (hb hby own_init7_24)
  refine own_go (st17 _ (Steps.refl _)) ?_
  show own_Go p e below _ (T17.setTop (mkF m 27 #[.val (.ref a), .val (.ref ab), .unset, .unset] [(.ref b16), (.ref a)]))
  obtain ⟨T18, h18, X18, e18, W18, st18⟩ := putF X17 hx hZ hown (host := "") (Or.inl (hw _ (List.mem_of_getElem? (i := 31) rfl))) Via.refl e17 (F_oct.ext E16) (A.ext E16) (Or.inr ⟨(hw _ (List.mem_of_getElem? (i := 32) rfl)), rfl, hnm⟩) (hw _ (List.mem_of_getElem? (i := 10) rfl)) (ty := (.array .byte)) (by decide) rfl rfl (g := (mkF m 27 #[.val (.ref a), .val (.ref ab), .unset, .unset] [(.ref b16), (.ref a)])) rfl rfl (hb hby own_init7_27)
  have F18 := (F_oct.ext E16).same W18
  have N18 := Fr.snoc X18 (Fr.nil n0) ge_a
  have Zl18 : n0 ≤ h18.size := Nat.le_trans Zl16 (Keep.of_wr W18).1
  have K18 : Keep h0 h18 [a] := K16.wr W18 (Or.inl (List.mem_of_getElem? (i := 0) rfl))
  refine own_go (st18 _ (Steps.refl _)) ?_
  show own_Go p e below _ (T18.setTop (mkF m 30 #[.val (.ref a), .val (.ref ab), .unset, .unset] []))
  refine own_go (XS.aloadN X18.here hx rfl (hb hby own_init7_30) rfl rfl (Steps.refl _)) ?_
  show own_Go p e below _ (T18.setTop (mkF m 31 #[.val (.ref a), .val (.ref ab), .unset, .unset] [(.ref a)]))
  refine own_go (XS.aloadN X18.here hx rfl (hb hby own_init7_31) rfl rfl (Steps.refl _)) ?_
  show own_Go p e below _ (T18.setTop (mkF m 32 #[.val (.ref a), .val (.ref ab), .unset, .unset] [(.ref ab), (.ref a)]))
  refine own_go (own_len X18 hx hZ e18 ((Vb.ext E16).other W18 (Ne.symm ne_a_ab)) (g := (mkF m 32 #[.val (.ref a), .val (.ref ab), .unset, .unset] [(.ref ab), (.ref a)])) rfl rfl (hb hby own_init7_32)) ?_
  show own_Go p e below _ (T18.setTop (mkF m 33 #[.val (.ref a), .val (.ref ab), .unset, .unset] [(.int (Int32.ofNat n)), (.ref a)]))
  obtain ⟨T19, h19, c19, b19, g19, X19, e19, E19, V19', st19⟩ := own_newP X18 hx hZ (hw _ (List.mem_of_getElem? (i := 0) rfl)) e18 (g := (mkF m 33 #[.val (.ref a), .val (.ref ab), .unset, .unset] [(.int (Int32.ofNat n)), (.ref a)])) rfl (hb hby own_init7_33) rfl (own_i0 (by omega)) (cap := 4) (by rw [own_ix (by omega)]; exact hn4) (by decide) (by decide) (by decide)
  have V19 : Arv Z h19 b19 c19 .int (Int32.ofNat n) [(.int (0 : Int32)), (.int (0 : Int32)), (.int (0 : Int32)), (.int (0 : Int32))] (.int (0 : Int32)) := V19'
  have ne_a_b19 : a ≠ b19 := own_born ((A.ext E16).wr W18).lt g19
  have ne_ab_b19 : ab ≠ b19 := own_born ((Vb.ext E16).other W18 (Ne.symm ne_a_ab)).lt g19
  have ne_b16_b19 : b16 ≠ b19 := own_born (V16.other W18 (Ne.symm ne_a_b16)).lt g19
  have ge_b19 : n0 ≤ b19 := Nat.le_trans Zl18 (Nat.le_of_eq g19.symm)
  have sz_b19 : h0.size ≤ b19 := Nat.le_trans K18.1 (Nat.le_of_eq g19.symm)
  have Zl19 : n0 ≤ h19.size := Nat.le_trans Zl18 E19.1
  have K19 : Keep h0 h19 [a] := K18.ext E19
  refine own_go st19 ?_
  show own_Go p e below _ (T19.setTop (mkF m 35 #[.val (.ref a), .val (.ref ab), .unset, .unset] [(.ref b19), (.ref a)]))
  obtain ⟨T20, h20, X20, e20, W20, st20⟩ := putF X19 hx hZ hown (host := "") (Or.inl (hw _ (List.mem_of_getElem? (i := 33) rfl))) Via.refl e19 (((F_fal.ext E16).other W18 (Or.inr (slot_ne (Or.inr (hw _ (List.mem_of_getElem? (i := 34) rfl))) (Or.inr (hw _ (List.mem_of_getElem? (i := 32) rfl))) (by decide) (t := (.array .int)) (t' := (.array .byte)) (by decide) (by decide)))).ext E19) (((A.ext E16).wr W18).ext E19) (Or.inr ⟨(hw _ (List.mem_of_getElem? (i := 34) rfl)), rfl, hnm⟩) (hw _ (List.mem_of_getElem? (i := 10) rfl)) (ty := (.array .int)) (by decide) rfl rfl (g := (mkF m 35 #[.val (.ref a), .val (.ref ab), .unset, .unset] [(.ref b19), (.ref a)])) rfl rfl (hb hby own_init7_35)
  have F20 := (((F_fal.ext E16).other W18 (Or.inr (slot_ne (Or.inr (hw _ (List.mem_of_getElem? (i := 34) rfl))) (Or.inr (hw _ (List.mem_of_getElem? (i := 32) rfl))) (by decide) (t := (.array .int)) (t' := (.array .byte)) (by decide) (by decide)))).ext E19).same W20
  have N20 := Fr.snoc X20 N18 ge_a
  have Zl20 : n0 ≤ h20.size := Nat.le_trans Zl19 (Keep.of_wr W20).1
  have K20 : Keep h0 h20 [a] := K19.wr W20 (Or.inl (List.mem_of_getElem? (i := 0) rfl))
  refine own_go (st20 _ (Steps.refl _)) ?_
  show own_Go p e below _ (T20.setTop (mkF m 38 #[.val (.ref a), .val (.ref ab), .unset, .unset] []))
  refine own_go (XS.iconst X20.here hx rfl (hb hby own_init7_38) (Steps.refl _)) ?_
  show own_Go p e below _ (T20.setTop (mkF m 39 #[.val (.ref a), .val (.ref ab), .unset, .unset] [(.int (0 : Int32))]))
  refine own_go (XS.istoreN X20.here hx rfl (hb hby own_init7_39) rfl (l' := #[.val (.ref a), .val (.ref ab), .val (.int (0 : Int32)), .unset]) rfl (Steps.refl _)) ?_
  show own_Go p e below _ (T20.setTop (mkF m 40 #[.val (.ref a), .val (.ref ab), .val (.int (0 : Int32)), .unset] []))
  refine own_go (XS.iconst X20.here hx rfl (hb hby own_init7_40) (Steps.refl _)) ?_
  show own_Go p e below _ (T20.setTop (mkF m 41 #[.val (.ref a), .val (.ref ab), .val (.int (0 : Int32)), .unset] [(.int (1 : Int32))]))
  refine own_go (XS.istoreN X20.here hx rfl (hb hby own_init7_41) rfl (l' := #[.val (.ref a), .val (.ref ab), .val (.int (0 : Int32)), .val (.int (1 : Int32))]) rfl (Steps.refl _)) ?_
  show own_Go p e below _ (T20.setTop (mkF m 42 #[.val (.ref a), .val (.ref ab), .val (.int (0 : Int32)), .val (.int (1 : Int32))] []))
  have inner : ∀ (i : Nat) (F : Nat → Nat) (locs : List Loc) (H : Heap), i < n → (∀ j, F j ≤ j) → Fld Z H a "com/example/crossweave/crossweave/soap/OctetPattern" "fallback" "[I" (.ref b19) → Arv Z H ab kb .byte (Int32.ofNat n) (own_vN B n) (.int (0 : Int32)) → Arv Z H b19 c19 .int (Int32.ofNat n) (own_vN (fun j => Int32.ofNat (F j)) 4) (.int (0 : Int32)) → ∀ (f k : Nat) (T : State), k ≤ f → k < i → Stand p l e ({ frames := 1, cells := 2, slots := 8, locals := 15 } : Room) s m #[(.ref a), (.ref ab)] below meth c T locs 2 8 → T.heap = H →
      (∀ (T' : State), Stand p l e ({ frames := 1, cells := 2, slots := 8, locals := 15 } : Room) s m #[(.ref a), (.ref ab)] below meth c T' locs 2 8 → T'.heap = H → own_Go p e below (own_G s (fun v h L => v = none ∧ Fr n0 L ∧ Keep h0 h [a] ∧ ∃ oa fa ko kf, Fld Z h a "com/example/crossweave/crossweave/soap/OctetPattern" "octets" "[B" (.ref oa) ∧ Fld Z h a "com/example/crossweave/crossweave/soap/OctetPattern" "fallback" "[I" (.ref fa) ∧ Arv Z h oa ko .byte (Int32.ofNat n) (own_vN B n) (.int (0 : Int32)) ∧ Arv Z h fa kf .int (Int32.ofNat n) (own_vN (fun j => Int32.ofNat ((own_Fs (own_Eq B) (n - 1)).1 j)) 4) (.int (0 : Int32))) 2 8) (T'.setTop (mkF m 73 #[.val (.ref a), .val (.ref ab), .val (.int (Int32.ofNat (own_back (own_Eq B i) F f k))), .val (.int (Int32.ofNat i))] []))) → own_Go p e below (own_G s (fun v h L => v = none ∧ Fr n0 L ∧ Keep h0 h [a] ∧ ∃ oa fa ko kf, Fld Z h a "com/example/crossweave/crossweave/soap/OctetPattern" "octets" "[B" (.ref oa) ∧ Fld Z h a "com/example/crossweave/crossweave/soap/OctetPattern" "fallback" "[I" (.ref fa) ∧ Arv Z h oa ko .byte (Int32.ofNat n) (own_vN B n) (.int (0 : Int32)) ∧ Arv Z h fa kf .int (Int32.ofNat n) (own_vN (fun j => Int32.ofNat ((own_Fs (own_Eq B) (n - 1)).1 j)) 4) (.int (0 : Int32))) 2 8) (T.setTop (mkF m 48 #[.val (.ref a), .val (.ref ab), .val (.int (Int32.ofNat k)), .val (.int (Int32.ofNat i))] [])) := by
    intro i F locs H hi hF Ff Vb Vf f
    induction f with
    | zero =>
      intro k T hk hki X eT kont
      obtain rfl : k = 0 := by omega
      show own_Go p e below _ (T.setTop (mkF m 48 #[.val (.ref a), .val (.ref ab), .val (.int (Int32.ofNat 0)), .val (.int (Int32.ofNat i))] []))
      refine own_go (XS.iloadN X.here hx rfl (hb hby own_init7_48) rfl (Steps.refl _)) ?_
      show own_Go p e below _ (T.setTop (mkF m 49 #[.val (.ref a), .val (.ref ab), .val (.int (Int32.ofNat 0)), .val (.int (Int32.ofNat i))] [(.int (Int32.ofNat 0))]))
      refine own_go (XS.ifYes X.here hx rfl (pc0 := 49) (pc' := 73) rfl (hb hby own_init7_49) rfl ((if0 _ _).trans (flt (by decide : ¬ (0 : Int32) < Int32.ofNat 0)).2.2.2) (by decide) (by decide) (Steps.refl _)) ?_
      show own_Go p e below _ (T.setTop (mkF m 73 #[.val (.ref a), .val (.ref ab), .val (.int (Int32.ofNat 0)), .val (.int (Int32.ofNat i))] []))
      exact kont T X eT
    | succ f ih =>
      intro k T hk hki X eT kont
      by_cases h0 : k = 0
      · subst h0
        show own_Go p e below _ (T.setTop (mkF m 48 #[.val (.ref a), .val (.ref ab), .val (.int (Int32.ofNat 0)), .val (.int (Int32.ofNat i))] []))
        refine own_go (XS.iloadN X.here hx rfl (hb hby own_init7_48) rfl (Steps.refl _)) ?_
        show own_Go p e below _ (T.setTop (mkF m 49 #[.val (.ref a), .val (.ref ab), .val (.int (Int32.ofNat 0)), .val (.int (Int32.ofNat i))] [(.int (Int32.ofNat 0))]))
        refine own_go (XS.ifYes X.here hx rfl (pc0 := 49) (pc' := 73) rfl (hb hby own_init7_49) rfl ((if0 _ _).trans (flt (by decide : ¬ (0 : Int32) < Int32.ofNat 0)).2.2.2) (by decide) (by decide) (Steps.refl _)) ?_
        show own_Go p e below _ (T.setTop (mkF m 73 #[.val (.ref a), .val (.ref ab), .val (.int (Int32.ofNat 0)), .val (.int (Int32.ofNat i))] []))
        exact kont T X eT
      · show own_Go p e below _ (T.setTop (mkF m 48 #[.val (.ref a), .val (.ref ab), .val (.int (Int32.ofNat k)), .val (.int (Int32.ofNat i))] []))
        refine own_go (XS.iloadN X.here hx rfl (hb hby own_init7_48) rfl (Steps.refl _)) ?_
        show own_Go p e below _ (T.setTop (mkF m 49 #[.val (.ref a), .val (.ref ab), .val (.int (Int32.ofNat k)), .val (.int (Int32.ofNat i))] [(.int (Int32.ofNat k))]))
        refine own_go (XS.ifNo X.here hx rfl (hb hby own_init7_49) rfl ((if0 _ _).trans (tlt ((own_ltN (i := 0) (by omega) (by omega)).mpr (by omega))).2.2.2) (Steps.refl _)) ?_
        show own_Go p e below _ (T.setTop (mkF m 52 #[.val (.ref a), .val (.ref ab), .val (.int (Int32.ofNat k)), .val (.int (Int32.ofNat i))] []))
        refine own_go (XS.aloadN X.here hx rfl (hb hby own_init7_52) rfl rfl (Steps.refl _)) ?_
        show own_Go p e below _ (T.setTop (mkF m 53 #[.val (.ref a), .val (.ref ab), .val (.int (Int32.ofNat k)), .val (.int (Int32.ofNat i))] [(.ref ab)]))
        refine own_go (XS.iloadN X.here hx rfl (hb hby own_init7_53) rfl (Steps.refl _)) ?_
        show own_Go p e below _ (T.setTop (mkF m 54 #[.val (.ref a), .val (.ref ab), .val (.int (Int32.ofNat k)), .val (.int (Int32.ofNat i))] [(.int (Int32.ofNat i)), (.ref ab)]))
        refine own_go (own_ldB X hx hZ eT Vb (own_i0 (by omega)) ((own_ltN (by omega) (by omega)).mpr (by omega)) (v := (B i)) (own_getN B (by omega) (by omega)) (g := (mkF m 54 #[.val (.ref a), .val (.ref ab), .val (.int (Int32.ofNat k)), .val (.int (Int32.ofNat i))] [(.int (Int32.ofNat i)), (.ref ab)])) rfl rfl (hb hby own_init7_54)) ?_
        show own_Go p e below _ (T.setTop (mkF m 55 #[.val (.ref a), .val (.ref ab), .val (.int (Int32.ofNat k)), .val (.int (Int32.ofNat i))] [(.int (B i))]))
        refine own_go (XS.aloadN X.here hx rfl (hb hby own_init7_55) rfl rfl (Steps.refl _)) ?_
        show own_Go p e below _ (T.setTop (mkF m 56 #[.val (.ref a), .val (.ref ab), .val (.int (Int32.ofNat k)), .val (.int (Int32.ofNat i))] [(.ref ab), (.int (B i))]))
        refine own_go (XS.iloadN X.here hx rfl (hb hby own_init7_56) rfl (Steps.refl _)) ?_
        show own_Go p e below _ (T.setTop (mkF m 57 #[.val (.ref a), .val (.ref ab), .val (.int (Int32.ofNat k)), .val (.int (Int32.ofNat i))] [(.int (Int32.ofNat k)), (.ref ab), (.int (B i))]))
        refine own_go (own_ldB X hx hZ eT Vb (own_i0 (by omega)) ((own_ltN (by omega) (by omega)).mpr (by omega)) (v := (B k)) (own_getN B (by omega) (by omega)) (g := (mkF m 57 #[.val (.ref a), .val (.ref ab), .val (.int (Int32.ofNat k)), .val (.int (Int32.ofNat i))] [(.int (Int32.ofNat k)), (.ref ab), (.int (B i))])) rfl rfl (hb hby own_init7_57)) ?_
        show own_Go p e below _ (T.setTop (mkF m 58 #[.val (.ref a), .val (.ref ab), .val (.int (Int32.ofNat k)), .val (.int (Int32.ofNat i))] [(.int (B k)), (.int (B i))]))
        by_cases he : (B i) = (B k)
        · refine own_go (XS.icmpYes X.here hx rfl (pc0 := 58) (pc' := 73) rfl (hb hby own_init7_58) rfl (teq he).1 (by decide) (by decide) (Steps.refl _)) ?_
          show own_Go p e below _ (T.setTop (mkF m 73 #[.val (.ref a), .val (.ref ab), .val (.int (Int32.ofNat k)), .val (.int (Int32.ofNat i))] []))
          have eb : own_back (own_Eq B i) F (f + 1) k = k := by simp [own_back, h0, own_Eq, he]
          rw [eb] at kont
          exact kont T X eT
        · refine own_go (XS.icmpNo X.here hx rfl (hb hby own_init7_58) rfl (feq he).1 (Steps.refl _)) ?_
          show own_Go p e below _ (T.setTop (mkF m 61 #[.val (.ref a), .val (.ref ab), .val (.int (Int32.ofNat k)), .val (.int (Int32.ofNat i))] []))
          refine own_go (XS.aloadN X.here hx rfl (hb hby own_init7_61) rfl rfl (Steps.refl _)) ?_
          show own_Go p e below _ (T.setTop (mkF m 62 #[.val (.ref a), .val (.ref ab), .val (.int (Int32.ofNat k)), .val (.int (Int32.ofNat i))] [(.ref a)]))
          obtain ⟨T21, X21, e21, st21⟩ := getF X hx hZ hown (host := "") (Or.inl (hw _ (List.mem_of_getElem? (i := 33) rfl))) Via.refl eT Ff (g := (mkF m 62 #[.val (.ref a), .val (.ref ab), .val (.int (Int32.ofNat k)), .val (.int (Int32.ofNat i))] [(.ref a)])) rfl rfl (hb hby own_init7_62)
          refine own_go (st21 _ (Steps.refl _)) ?_
          show own_Go p e below _ (T21.setTop (mkF m 65 #[.val (.ref a), .val (.ref ab), .val (.int (Int32.ofNat k)), .val (.int (Int32.ofNat i))] [(.ref b19)]))
          refine own_go (XS.iloadN X21.here hx rfl (hb hby own_init7_65) rfl (Steps.refl _)) ?_
          show own_Go p e below _ (T21.setTop (mkF m 66 #[.val (.ref a), .val (.ref ab), .val (.int (Int32.ofNat k)), .val (.int (Int32.ofNat i))] [(.int (Int32.ofNat k)), (.ref b19)]))
          refine own_go (XS.iconst X21.here hx rfl (hb hby own_init7_66) (Steps.refl _)) ?_
          show own_Go p e below _ (T21.setTop (mkF m 67 #[.val (.ref a), .val (.ref ab), .val (.int (Int32.ofNat k)), .val (.int (Int32.ofNat i))] [(.int (1 : Int32)), (.int (Int32.ofNat k)), (.ref b19)]))
          refine own_go (XS.isub X21.here hx rfl (hb hby own_init7_67) rfl (Steps.refl _)) ?_
          show own_Go p e below _ (T21.setTop (mkF m 68 #[.val (.ref a), .val (.ref ab), .val (.int (Int32.ofNat k)), .val (.int (Int32.ofNat i))] [(.int ((Int32.ofNat k) - (1 : Int32))), (.ref b19)]))
          rw [show Int32.ofNat k - (1 : Int32) = Int32.ofNat (k - 1) from own_sub (j := 1) (by omega)]
          show own_Go p e below _ (T21.setTop (mkF m 68 #[.val (.ref a), .val (.ref ab), .val (.int (Int32.ofNat k)), .val (.int (Int32.ofNat i))] [(.int (Int32.ofNat (k - 1))), (.ref b19)]))
          refine own_go (own_ldI X21 hx hZ e21 Vf (own_i0 (by omega)) ((own_ltN (by omega) (by omega)).mpr (by omega)) (v := (Int32.ofNat (F (k - 1)))) (own_getN (fun j => Int32.ofNat (F j)) (n := 4) (by omega) (by omega)) (g := (mkF m 68 #[.val (.ref a), .val (.ref ab), .val (.int (Int32.ofNat k)), .val (.int (Int32.ofNat i))] [(.int (Int32.ofNat (k - 1))), (.ref b19)])) rfl rfl (hb hby own_init7_68)) ?_
          show own_Go p e below _ (T21.setTop (mkF m 69 #[.val (.ref a), .val (.ref ab), .val (.int (Int32.ofNat k)), .val (.int (Int32.ofNat i))] [(.int (Int32.ofNat (F (k - 1))))]))
          refine own_go (XS.istoreN X21.here hx rfl (hb hby own_init7_69) rfl (l' := #[.val (.ref a), .val (.ref ab), .val (.int (Int32.ofNat (F (k - 1)))), .val (.int (Int32.ofNat i))]) rfl (Steps.refl _)) ?_
          show own_Go p e below _ (T21.setTop (mkF m 70 #[.val (.ref a), .val (.ref ab), .val (.int (Int32.ofNat (F (k - 1)))), .val (.int (Int32.ofNat i))] []))
          refine own_go (XS.goto X21.here hx rfl (pc0 := 70) (pc' := 48) rfl (hb hby own_init7_70) (by decide) (by decide) (Steps.refl _)) ?_
          show own_Go p e below _ (T21.setTop (mkF m 48 #[.val (.ref a), .val (.ref ab), .val (.int (Int32.ofNat (F (k - 1)))), .val (.int (Int32.ofNat i))] []))
          have hF1 := hF (k - 1)
          have eb : own_back (own_Eq B i) F (f + 1) k = own_back (own_Eq B i) F f (F (k - 1)) := by simp [own_back, h0, own_Eq, he]
          rw [eb] at kont
          exact ih (F (k - 1)) T21 (by omega) (by omega) X21 e21 kont
  have outer : ∀ (t i : Nat) (T : State) (locs : List Loc) (H : Heap), i + t = n → 1 ≤ i → Fld Z H a "com/example/crossweave/crossweave/soap/OctetPattern" "octets" "[B" (.ref b16) → Fld Z H a "com/example/crossweave/crossweave/soap/OctetPattern" "fallback" "[I" (.ref b19) → Arv Z H b16 kb .byte (Int32.ofNat n) (own_vN B n) (.int (0 : Int32)) → Arv Z H ab kb .byte (Int32.ofNat n) (own_vN B n) (.int (0 : Int32)) → Arv Z H b19 c19 .int (Int32.ofNat n) (own_vN (fun j => Int32.ofNat ((own_Fs (own_Eq B) (i - 1)).1 j)) 4) (.int (0 : Int32)) → Keep h0 H [a] → Fr n0 locs → n0 ≤ H.size → Stand p l e ({ frames := 1, cells := 2, slots := 8, locals := 15 } : Room) s m #[(.ref a), (.ref ab)] below meth c T locs 2 8 → T.heap = H →
      (∀ (T' : State) (locs' : List Loc) (H' : Heap), Fld Z H' a "com/example/crossweave/crossweave/soap/OctetPattern" "octets" "[B" (.ref b16) → Fld Z H' a "com/example/crossweave/crossweave/soap/OctetPattern" "fallback" "[I" (.ref b19) → Arv Z H' b16 kb .byte (Int32.ofNat n) (own_vN B n) (.int (0 : Int32)) → Arv Z H' ab kb .byte (Int32.ofNat n) (own_vN B n) (.int (0 : Int32)) → Arv Z H' b19 c19 .int (Int32.ofNat n) (own_vN (fun j => Int32.ofNat ((own_Fs (own_Eq B) (n - 1)).1 j)) 4) (.int (0 : Int32)) → Keep h0 H' [a] → Fr n0 locs' → n0 ≤ H'.size → Stand p l e ({ frames := 1, cells := 2, slots := 8, locals := 15 } : Room) s m #[(.ref a), (.ref ab)] below meth c T' locs' 2 8 → T'.heap = H' → own_Go p e below (own_G s (fun v h L => v = none ∧ Fr n0 L ∧ Keep h0 h [a] ∧ ∃ oa fa ko kf, Fld Z h a "com/example/crossweave/crossweave/soap/OctetPattern" "octets" "[B" (.ref oa) ∧ Fld Z h a "com/example/crossweave/crossweave/soap/OctetPattern" "fallback" "[I" (.ref fa) ∧ Arv Z h oa ko .byte (Int32.ofNat n) (own_vN B n) (.int (0 : Int32)) ∧ Arv Z h fa kf .int (Int32.ofNat n) (own_vN (fun j => Int32.ofNat ((own_Fs (own_Eq B) (n - 1)).1 j)) 4) (.int (0 : Int32))) 2 8) (T'.setTop (mkF m 98 #[.val (.ref a), .val (.ref ab), .val (.int (Int32.ofNat ((own_Fs (own_Eq B) (n - 1)).2))), .val (.int (Int32.ofNat n))] []))) → own_Go p e below (own_G s (fun v h L => v = none ∧ Fr n0 L ∧ Keep h0 h [a] ∧ ∃ oa fa ko kf, Fld Z h a "com/example/crossweave/crossweave/soap/OctetPattern" "octets" "[B" (.ref oa) ∧ Fld Z h a "com/example/crossweave/crossweave/soap/OctetPattern" "fallback" "[I" (.ref fa) ∧ Arv Z h oa ko .byte (Int32.ofNat n) (own_vN B n) (.int (0 : Int32)) ∧ Arv Z h fa kf .int (Int32.ofNat n) (own_vN (fun j => Int32.ofNat ((own_Fs (own_Eq B) (n - 1)).1 j)) 4) (.int (0 : Int32))) 2 8) (T.setTop (mkF m 42 #[.val (.ref a), .val (.ref ab), .val (.int (Int32.ofNat ((own_Fs (own_Eq B) (i - 1)).2))), .val (.int (Int32.ofNat i))] [])) := by
    intro t
    induction t with
    | zero =>
      intro i T locs H hit hi Fo Ff Vo Vb Vf K N Zl X eT kont
      obtain rfl : n = i := by omega
      show own_Go p e below _ (T.setTop (mkF m 42 #[.val (.ref a), .val (.ref ab), .val (.int (Int32.ofNat ((own_Fs (own_Eq B) (n - 1)).2))), .val (.int (Int32.ofNat n))] []))
      refine own_go (XS.iloadN X.here hx rfl (hb hby own_init7_42) rfl (Steps.refl _)) ?_
      show own_Go p e below _ (T.setTop (mkF m 43 #[.val (.ref a), .val (.ref ab), .val (.int (Int32.ofNat ((own_Fs (own_Eq B) (n - 1)).2))), .val (.int (Int32.ofNat n))] [(.int (Int32.ofNat n))]))
      refine own_go (XS.aloadN X.here hx rfl (hb hby own_init7_43) rfl rfl (Steps.refl _)) ?_
      show own_Go p e below _ (T.setTop (mkF m 44 #[.val (.ref a), .val (.ref ab), .val (.int (Int32.ofNat ((own_Fs (own_Eq B) (n - 1)).2))), .val (.int (Int32.ofNat n))] [(.ref ab), (.int (Int32.ofNat n))]))
      refine own_go (own_len X hx hZ eT Vb (g := (mkF m 44 #[.val (.ref a), .val (.ref ab), .val (.int (Int32.ofNat ((own_Fs (own_Eq B) (n - 1)).2))), .val (.int (Int32.ofNat n))] [(.ref ab), (.int (Int32.ofNat n))])) rfl rfl (hb hby own_init7_44)) ?_
      show own_Go p e below _ (T.setTop (mkF m 45 #[.val (.ref a), .val (.ref ab), .val (.int (Int32.ofNat ((own_Fs (own_Eq B) (n - 1)).2))), .val (.int (Int32.ofNat n))] [(.int (Int32.ofNat n)), (.int (Int32.ofNat n))]))
      refine own_go (XS.icmpYes X.here hx rfl (pc0 := 45) (pc' := 98) rfl (hb hby own_init7_45) rfl (flt (fun q => Nat.lt_irrefl _ ((own_ltN (by omega) (by omega)).mp q))).2.1 (by decide) (by decide) (Steps.refl _)) ?_
      show own_Go p e below _ (T.setTop (mkF m 98 #[.val (.ref a), .val (.ref ab), .val (.int (Int32.ofNat ((own_Fs (own_Eq B) (n - 1)).2))), .val (.int (Int32.ofNat n))] []))
      exact kont T locs H Fo Ff Vo Vb Vf K N Zl X eT
    | succ t ih =>
      intro i T locs H hit hi Fo Ff Vo Vb Vf K N Zl X eT kont
      have hle := own_Fs_le (own_Eq B) (i - 1)
      obtain ⟨F, hF⟩ : ∃ F, F = (own_Fs (own_Eq B) (i - 1)).1 := ⟨_, rfl⟩
      obtain ⟨k, hk⟩ : ∃ k, k = (own_Fs (own_Eq B) (i - 1)).2 := ⟨_, rfl⟩
      have eFi : own_Fs (own_Eq B) i = (own_updN F i (own_nxt (own_Eq B i) F k), own_nxt (own_Eq B i) F k) := by
        obtain ⟨j, rfl⟩ : ∃ j, i = j + 1 := ⟨i - 1, by omega⟩
        rw [hF, hk]; rfl
      rw [← hF, ← hk] at hle
      rw [← hF] at Vf
      rw [← hk]
      show own_Go p e below _ (T.setTop (mkF m 42 #[.val (.ref a), .val (.ref ab), .val (.int (Int32.ofNat k)), .val (.int (Int32.ofNat i))] []))
      refine own_go (XS.iloadN X.here hx rfl (hb hby own_init7_42) rfl (Steps.refl _)) ?_
      show own_Go p e below _ (T.setTop (mkF m 43 #[.val (.ref a), .val (.ref ab), .val (.int (Int32.ofNat k)), .val (.int (Int32.ofNat i))] [(.int (Int32.ofNat i))]))
      refine own_go (XS.aloadN X.here hx rfl (hb hby own_init7_43) rfl rfl (Steps.refl _)) ?_
      show own_Go p e below _ (T.setTop (mkF m 44 #[.val (.ref a), .val (.ref ab), .val (.int (Int32.ofNat k)), .val (.int (Int32.ofNat i))] [(.ref ab), (.int (Int32.ofNat i))]))
      refine own_go (own_len X hx hZ eT Vb (g := (mkF m 44 #[.val (.ref a), .val (.ref ab), .val (.int (Int32.ofNat k)), .val (.int (Int32.ofNat i))] [(.ref ab), (.int (Int32.ofNat i))])) rfl rfl (hb hby own_init7_44)) ?_
      show own_Go p e below _ (T.setTop (mkF m 45 #[.val (.ref a), .val (.ref ab), .val (.int (Int32.ofNat k)), .val (.int (Int32.ofNat i))] [(.int (Int32.ofNat n)), (.int (Int32.ofNat i))]))
      refine own_go (XS.icmpNo X.here hx rfl (hb hby own_init7_45) rfl (tlt ((own_ltN (by omega) (by omega)).mpr (by omega))).2.1 (Steps.refl _)) ?_
      show own_Go p e below _ (T.setTop (mkF m 48 #[.val (.ref a), .val (.ref ab), .val (.int (Int32.ofNat k)), .val (.int (Int32.ofNat i))] []))
      refine inner i F locs H (by omega) hle.1 Ff Vb Vf 4 k T (by omega) (by omega) X eT ?_
      intro T2 X2 e2
      obtain ⟨j, hj⟩ : ∃ j, j = own_back (own_Eq B i) F 4 k := ⟨_, rfl⟩
      have hjk : j ≤ k := by rw [hj]; exact own_back_le hle.1 4 k
      rw [← hj]
      show own_Go p e below _ (T2.setTop (mkF m 73 #[.val (.ref a), .val (.ref ab), .val (.int (Int32.ofNat j)), .val (.int (Int32.ofNat i))] []))
      refine own_go (XS.aloadN X2.here hx rfl (hb hby own_init7_73) rfl rfl (Steps.refl _)) ?_
      show own_Go p e below _ (T2.setTop (mkF m 74 #[.val (.ref a), .val (.ref ab), .val (.int (Int32.ofNat j)), .val (.int (Int32.ofNat i))] [(.ref ab)]))
      refine own_go (XS.iloadN X2.here hx rfl (hb hby own_init7_74) rfl (Steps.refl _)) ?_
      show own_Go p e below _ (T2.setTop (mkF m 75 #[.val (.ref a), .val (.ref ab), .val (.int (Int32.ofNat j)), .val (.int (Int32.ofNat i))] [(.int (Int32.ofNat i)), (.ref ab)]))
      refine own_go (own_ldB X2 hx hZ e2 Vb (own_i0 (by omega)) ((own_ltN (by omega) (by omega)).mpr (by omega)) (v := (B i)) (own_getN B (by omega) (by omega)) (g := (mkF m 75 #[.val (.ref a), .val (.ref ab), .val (.int (Int32.ofNat j)), .val (.int (Int32.ofNat i))] [(.int (Int32.ofNat i)), (.ref ab)])) rfl rfl (hb hby own_init7_75)) ?_
      show own_Go p e below _ (T2.setTop (mkF m 76 #[.val (.ref a), .val (.ref ab), .val (.int (Int32.ofNat j)), .val (.int (Int32.ofNat i))] [(.int (B i))]))
      refine own_go (XS.aloadN X2.here hx rfl (hb hby own_init7_76) rfl rfl (Steps.refl _)) ?_
      show own_Go p e below _ (T2.setTop (mkF m 77 #[.val (.ref a), .val (.ref ab), .val (.int (Int32.ofNat j)), .val (.int (Int32.ofNat i))] [(.ref ab), (.int (B i))]))
      refine own_go (XS.iloadN X2.here hx rfl (hb hby own_init7_77) rfl (Steps.refl _)) ?_
      show own_Go p e below _ (T2.setTop (mkF m 78 #[.val (.ref a), .val (.ref ab), .val (.int (Int32.ofNat j)), .val (.int (Int32.ofNat i))] [(.int (Int32.ofNat j)), (.ref ab), (.int (B i))]))
      refine own_go (own_ldB X2 hx hZ e2 Vb (own_i0 (by omega)) ((own_ltN (by omega) (by omega)).mpr (by omega)) (v := (B j)) (own_getN B (by omega) (by omega)) (g := (mkF m 78 #[.val (.ref a), .val (.ref ab), .val (.int (Int32.ofNat j)), .val (.int (Int32.ofNat i))] [(.int (Int32.ofNat j)), (.ref ab), (.int (B i))])) rfl rfl (hb hby own_init7_78)) ?_
      show own_Go p e below _ (T2.setTop (mkF m 79 #[.val (.ref a), .val (.ref ab), .val (.int (Int32.ofNat j)), .val (.int (Int32.ofNat i))] [(.int (B j)), (.int (B i))]))
      suffices J : ∀ kk : Nat, kk = own_nxt (own_Eq B i) F k → own_Go p e below (own_G s (fun v h L => v = none ∧ Fr n0 L ∧ Keep h0 h [a] ∧ ∃ oa fa ko kf, Fld Z h a "com/example/crossweave/crossweave/soap/OctetPattern" "octets" "[B" (.ref oa) ∧ Fld Z h a "com/example/crossweave/crossweave/soap/OctetPattern" "fallback" "[I" (.ref fa) ∧ Arv Z h oa ko .byte (Int32.ofNat n) (own_vN B n) (.int (0 : Int32)) ∧ Arv Z h fa kf .int (Int32.ofNat n) (own_vN (fun j => Int32.ofNat ((own_Fs (own_Eq B) (n - 1)).1 j)) 4) (.int (0 : Int32))) 2 8) (T2.setTop (mkF m 85 #[.val (.ref a), .val (.ref ab), .val (.int (Int32.ofNat kk)), .val (.int (Int32.ofNat i))] [])) by
        by_cases he : (B i) = (B j)
        · refine own_go (XS.icmpNo X2.here hx rfl (hb hby own_init7_79) rfl (teq he).2 (Steps.refl _)) ?_
          show own_Go p e below _ (T2.setTop (mkF m 82 #[.val (.ref a), .val (.ref ab), .val (.int (Int32.ofNat j)), .val (.int (Int32.ofNat i))] []))
          refine own_go (XS.iinc X2.here hx rfl (hb hby own_init7_82) rfl (l' := #[.val (.ref a), .val (.ref ab), .val (.int ((Int32.ofNat j) + (1 : Int32))), .val (.int (Int32.ofNat i))]) rfl (Steps.refl _)) ?_
          show own_Go p e below _ (T2.setTop (mkF m 85 #[.val (.ref a), .val (.ref ab), .val (.int ((Int32.ofNat j) + (1 : Int32))), .val (.int (Int32.ofNat i))] []))
          rw [own_n1]
          exact J _ (by simp [own_nxt, ← hj, own_Eq, he])
        · refine own_go (XS.icmpYes X2.here hx rfl (pc0 := 79) (pc' := 85) rfl (hb hby own_init7_79) rfl (feq he).2 (by decide) (by decide) (Steps.refl _)) ?_
          show own_Go p e below _ (T2.setTop (mkF m 85 #[.val (.ref a), .val (.ref ab), .val (.int (Int32.ofNat j)), .val (.int (Int32.ofNat i))] []))
          exact J _ (by simp [own_nxt, ← hj, own_Eq, he])
      intro kk hkk
      show own_Go p e below _ (T2.setTop (mkF m 85 #[.val (.ref a), .val (.ref ab), .val (.int (Int32.ofNat kk)), .val (.int (Int32.ofNat i))] []))
      refine own_go (XS.aloadN X2.here hx rfl (hb hby own_init7_85) rfl rfl (Steps.refl _)) ?_
      show own_Go p e below _ (T2.setTop (mkF m 86 #[.val (.ref a), .val (.ref ab), .val (.int (Int32.ofNat kk)), .val (.int (Int32.ofNat i))] [(.ref a)]))
      obtain ⟨T22, X22, e22, st22⟩ := getF X2 hx hZ hown (host := "") (Or.inl (hw _ (List.mem_of_getElem? (i := 33) rfl))) Via.refl e2 Ff (g := (mkF m 86 #[.val (.ref a), .val (.ref ab), .val (.int (Int32.ofNat kk)), .val (.int (Int32.ofNat i))] [(.ref a)])) rfl rfl (hb hby own_init7_86)
      refine own_go (st22 _ (Steps.refl _)) ?_
      show own_Go p e below _ (T22.setTop (mkF m 89 #[.val (.ref a), .val (.ref ab), .val (.int (Int32.ofNat kk)), .val (.int (Int32.ofNat i))] [(.ref b19)]))
      refine own_go (XS.iloadN X22.here hx rfl (hb hby own_init7_89) rfl (Steps.refl _)) ?_
      show own_Go p e below _ (T22.setTop (mkF m 90 #[.val (.ref a), .val (.ref ab), .val (.int (Int32.ofNat kk)), .val (.int (Int32.ofNat i))] [(.int (Int32.ofNat i)), (.ref b19)]))
      refine own_go (XS.iloadN X22.here hx rfl (hb hby own_init7_90) rfl (Steps.refl _)) ?_
      show own_Go p e below _ (T22.setTop (mkF m 91 #[.val (.ref a), .val (.ref ab), .val (.int (Int32.ofNat kk)), .val (.int (Int32.ofNat i))] [(.int (Int32.ofNat kk)), (.int (Int32.ofNat i)), (.ref b19)]))
      obtain ⟨T23, h23, X23, e23, W23, V23', st23⟩ := own_stI X22 hx hZ e22 Vf (own_i0 (by omega)) ((own_ltN (by omega) (by omega)).mpr (by omega)) (g := (mkF m 91 #[.val (.ref a), .val (.ref ab), .val (.int (Int32.ofNat kk)), .val (.int (Int32.ofNat i))] [(.int (Int32.ofNat kk)), (.int (Int32.ofNat i)), (.ref b19)])) rfl rfl (hb hby own_init7_91) (i := i) (own_ix (by omega)) (own_lenN _ (by omega))
      have V23 : Arv Z h23 b19 c19 .int (Int32.ofNat n) ((own_vN (fun j => Int32.ofNat (F j)) 4).set i (.int (Int32.ofNat kk))) (.int (0 : Int32)) := V23'
      have N23 := Fr.snoc X23 N ge_b19
      have Zl23 : n0 ≤ h23.size := Nat.le_trans Zl (Keep.of_wr W23).1
      have K23 : Keep h0 h23 [a] := K.wr W23 (Or.inr sz_b19)
      refine own_go st23 ?_
      show own_Go p e below _ (T23.setTop (mkF m 92 #[.val (.ref a), .val (.ref ab), .val (.int (Int32.ofNat kk)), .val (.int (Int32.ofNat i))] []))
      rw [own_setN] at V23
      have eg : own_upd (fun j => Int32.ofNat (F j)) i (Int32.ofNat kk) = fun j => Int32.ofNat ((own_Fs (own_Eq B) (i + 1 - 1)).1 j) := by
        funext u
        rw [Nat.add_sub_cancel, eFi, hkk]
        show own_upd _ _ _ u = Int32.ofNat (own_updN _ _ _ u)
        unfold own_upd own_updN
        by_cases hu : u = i <;> simp [hu]
      rw [eg] at V23
      refine own_go (XS.iinc X23.here hx rfl (hb hby own_init7_92) rfl (l' := #[.val (.ref a), .val (.ref ab), .val (.int (Int32.ofNat kk)), .val (.int ((Int32.ofNat i) + (1 : Int32)))]) rfl (Steps.refl _)) ?_
      show own_Go p e below _ (T23.setTop (mkF m 95 #[.val (.ref a), .val (.ref ab), .val (.int (Int32.ofNat kk)), .val (.int ((Int32.ofNat i) + (1 : Int32)))] []))
      rw [own_n1]
      show own_Go p e below _ (T23.setTop (mkF m 95 #[.val (.ref a), .val (.ref ab), .val (.int (Int32.ofNat kk)), .val (.int (Int32.ofNat (i + 1)))] []))
      refine own_go (XS.goto X23.here hx rfl (pc0 := 95) (pc' := 42) rfl (hb hby own_init7_95) (by decide) (by decide) (Steps.refl _)) ?_
      show own_Go p e below _ (T23.setTop (mkF m 42 #[.val (.ref a), .val (.ref ab), .val (.int (Int32.ofNat kk)), .val (.int (Int32.ofNat (i + 1)))] []))
      have ek : kk = (own_Fs (own_Eq B) (i + 1 - 1)).2 := by rw [Nat.add_sub_cancel, eFi]; exact hkk
      rw [ek]
      exact ih (i + 1) T23 _ h23 (by omega) (by omega) (Fo.other W23 (Or.inl ne_a_b19)) (Ff.other W23 (Or.inl ne_a_b19)) (Vo.other W23 ne_b16_b19) (Vb.other W23 ne_ab_b19) V23 K23 N23 Zl23 X23 e23 kont
  have V0 : Arv Z h20 b19 c19 .int (Int32.ofNat n) (own_vN (fun j => Int32.ofNat ((own_Fs (own_Eq B) (1 - 1)).1 j)) 4) (.int (0 : Int32)) := (V19.other W20 (Ne.symm ne_a_b19))
  show own_Go p e below _ (T20.setTop (mkF m 42 #[.val (.ref a), .val (.ref ab), .val (.int (0 : Int32)), .val (.int (1 : Int32))] []))
  refine outer (n - 1) 1 T20 _ h20 (by omega) (by omega) ((F18.ext E19).other W20 (Or.inr (slot_ne (Or.inr (hw _ (List.mem_of_getElem? (i := 32) rfl))) (Or.inr (hw _ (List.mem_of_getElem? (i := 34) rfl))) (by decide) (t := (.array .byte)) (t' := (.array .int)) (by decide) (by decide)))) F20 (((V16.other W18 (Ne.symm ne_a_b16)).ext E19).other W20 (Ne.symm ne_a_b16)) ((((Vb.ext E16).other W18 (Ne.symm ne_a_ab)).ext E19).other W20 (Ne.symm ne_a_ab)) V0 K20 N20 Zl20 X20 e20 ?_
  intro T9 locs9 H9 Fo Ff Vo Vb9 Vf K9 N9 Zl9 X9 e9
  show own_Go p e below _ (T9.setTop (mkF m 98 #[.val (.ref a), .val (.ref ab), .val (.int (Int32.ofNat ((own_Fs (own_Eq B) (n - 1)).2))), .val (.int (Int32.ofNat n))] []))
  exact own_retV X9 hx hlk e9 Bd.returns (hb hby own_init7_98) ⟨rfl, N9, K9, b16, b19, kb, c19, Fo, Ff, Vo, Vf⟩ (by decide) (by decide)
theorem own_next_0 : decode prog_116_method_4_code 0 = .ok (.iload_n 1, 1) := by decide +kernel
theorem own_next_1 : decode prog_116_method_4_code 1 = .ok (.aload_n 0, 1) := by decide +kernel
theorem own_next_2 : decode prog_116_method_4_code 2 = .ok (.getfield 20, 3) := by decide +kernel
theorem own_next_5 : decode prog_116_method_4_code 5 = .ok (.arraylength, 1) := by decide +kernel
theorem own_next_6 : decode prog_116_method_4_code 6 = .ok (.if_icmp .ne 14, 3) := by decide +kernel
theorem own_next_9 : decode prog_116_method_4_code 9 = .ok (.aload_n 0, 1) := by decide +kernel
theorem own_next_10 : decode prog_116_method_4_code 10 = .ok (.getfield 25, 3) := by decide +kernel
theorem own_next_13 : decode prog_116_method_4_code 13 = .ok (.iload_n 1, 1) := by decide +kernel
theorem own_next_14 : decode prog_116_method_4_code 14 = .ok (.iconst 1, 1) := by decide +kernel
theorem own_next_15 : decode prog_116_method_4_code 15 = .ok (.isub, 1) := by decide +kernel
theorem own_next_16 : decode prog_116_method_4_code 16 = .ok (.iaload, 1) := by decide +kernel
theorem own_next_17 : decode prog_116_method_4_code 17 = .ok (.goto 4, 3) := by decide +kernel
theorem own_next_20 : decode prog_116_method_4_code 20 = .ok (.iload_n 1, 1) := by decide +kernel
theorem own_next_21 : decode prog_116_method_4_code 21 = .ok (.istore_n 3, 1) := by decide +kernel
theorem own_next_22 : decode prog_116_method_4_code 22 = .ok (.iload_n 3, 1) := by decide +kernel
theorem own_next_23 : decode prog_116_method_4_code 23 = .ok (.ifCond .le 29, 3) := by decide +kernel
theorem own_next_26 : decode prog_116_method_4_code 26 = .ok (.aload_n 0, 1) := by decide +kernel
theorem own_next_27 : decode prog_116_method_4_code 27 = .ok (.getfield 20, 3) := by decide +kernel
theorem own_next_30 : decode prog_116_method_4_code 30 = .ok (.iload_n 3, 1) := by decide +kernel
theorem own_next_31 : decode prog_116_method_4_code 31 = .ok (.baload, 1) := by decide +kernel
theorem own_next_32 : decode prog_116_method_4_code 32 = .ok (.sipush 255, 3) := by decide +kernel
theorem own_next_35 : decode prog_116_method_4_code 35 = .ok (.iand, 1) := by decide +kernel
theorem own_next_36 : decode prog_116_method_4_code 36 = .ok (.iload_n 2, 1) := by decide +kernel
theorem own_next_37 : decode prog_116_method_4_code 37 = .ok (.if_icmp .eq 15, 3) := by decide +kernel
theorem own_next_40 : decode prog_116_method_4_code 40 = .ok (.aload_n 0, 1) := by decide +kernel
theorem own_next_41 : decode prog_116_method_4_code 41 = .ok (.getfield 25, 3) := by decide +kernel
theorem own_next_44 : decode prog_116_method_4_code 44 = .ok (.iload_n 3, 1) := by decide +kernel
theorem own_next_45 : decode prog_116_method_4_code 45 = .ok (.iconst 1, 1) := by decide +kernel
theorem own_next_46 : decode prog_116_method_4_code 46 = .ok (.isub, 1) := by decide +kernel
theorem own_next_47 : decode prog_116_method_4_code 47 = .ok (.iaload, 1) := by decide +kernel
theorem own_next_48 : decode prog_116_method_4_code 48 = .ok (.istore_n 3, 1) := by decide +kernel
theorem own_next_49 : decode prog_116_method_4_code 49 = .ok (.goto (-27), 3) := by decide +kernel
theorem own_next_52 : decode prog_116_method_4_code 52 = .ok (.aload_n 0, 1) := by decide +kernel
theorem own_next_53 : decode prog_116_method_4_code 53 = .ok (.getfield 20, 3) := by decide +kernel
theorem own_next_56 : decode prog_116_method_4_code 56 = .ok (.iload_n 3, 1) := by decide +kernel
theorem own_next_57 : decode prog_116_method_4_code 57 = .ok (.baload, 1) := by decide +kernel
theorem own_next_58 : decode prog_116_method_4_code 58 = .ok (.sipush 255, 3) := by decide +kernel
theorem own_next_61 : decode prog_116_method_4_code 61 = .ok (.iand, 1) := by decide +kernel
theorem own_next_62 : decode prog_116_method_4_code 62 = .ok (.iload_n 2, 1) := by decide +kernel
theorem own_next_63 : decode prog_116_method_4_code 63 = .ok (.if_icmp .ne 6, 3) := by decide +kernel
theorem own_next_66 : decode prog_116_method_4_code 66 = .ok (.iinc 3 1, 3) := by decide +kernel
theorem own_next_69 : decode prog_116_method_4_code 69 = .ok (.iload_n 3, 1) := by decide +kernel
theorem own_next_70 : decode prog_116_method_4_code 70 = .ok (.ireturn, 1) := by decide +kernel
theorem own_f13 (m : MethodId) (x0 : Addr) (x1 : Int32) (x2 : Int32) : entryFrame m #[(.ref x0), (.int x1), (.int x2)] 4 = mkF m 0 #[.val (.ref x0), .val (.int x1), .val (.int x2), .unset] [] := by first | (simp [entryFrame, mkF, argsToLocals, Value.category]; done) | rfl
set_option maxRecDepth 65536 in
set_option maxHeartbeats 40000000 in
theorem rm_next (l : Launch) (Z : State) (a0 : Array Value) (hw : ∀ d ∈ tables_1, d.before a0 Z = true) (a oa fa : Addr) (ko kf : ClassId) (B : Nat → Int32) (F : Nat → Nat) (n mN : Nat) (oc : Int32) (h0 : Heap) (n0 : Nat) (Z0 : n0 ≤ h0.size) (hn : 1 ≤ n) (hn4 : n ≤ 4) (hm : mN ≤ n) (hF : ∀ j, F j ≤ j) (Fo : Fld Z h0 a "com/example/crossweave/crossweave/soap/OctetPattern" "octets" "[B" (.ref oa)) (Ff : Fld Z h0 a "com/example/crossweave/crossweave/soap/OctetPattern" "fallback" "[I" (.ref fa)) (Vo : Arv Z h0 oa ko .byte (Int32.ofNat n) (own_vN B n) (.int (0 : Int32))) (Vf : Arv Z h0 fa kf .int (Int32.ofNat n) (own_vN (fun j => Int32.ofNat (F j)) 4) (.int (0 : Int32))) :
    own_Met l Z (⟨"com/example/crossweave/crossweave/soap/OctetPattern", "next", "(II)I"⟩ : MethodName) prog_116_method_4_code 4 (some .int) ({ frames := 0, cells := 0, slots := 0, locals := 0 } : Room) #[(.ref a), (.int (Int32.ofNat mN)), (.int oc)] h0 (fun v h L => v = some (.int (Int32.ofNat (own_nxt (fun j => decide ((B j &&& (255 : Int32)) = oc)) F (if mN = n then F (n - 1) else mN)))) ∧ L = [] ∧ h = h0) := by
  refine MetFree.of_bodySF (plainFor_of_name own_f8) hisR ?_
  intro p e s m args below meth c s₁ Bd hml0 hP hK
  obtain ⟨rfl, hZ, hh⟩ := hP
  have hx := Bd.exec
  have hby := Bd.bytes
  have hlk : meth.locks = false := Bd.notSynchronized
  have hml : c.maxLocals = 4 := hml0
  have hown : s.vm.findClass "com/example/crossweave/crossweave/soap/OctetPattern" = some m.cls := findClass_of_methodNamed Bd.named
  have hnm := (name_of_methodNamed Bd.named Bd.method).1
  have X0 : Stand p l e ({ frames := 0, cells := 0, slots := 0, locals := 0 } : Room) s m #[(.ref a), (.int (Int32.ofNat mN)), (.int oc)] below meth c s₁ [] 0 0 := Stand.of_body Bd
  have e0 : s₁.heap = h0 := by rw [← hh, Bd.state]; rfl
  show own_Go p e below (own_G s (fun v h L => v = some (.int (Int32.ofNat (own_nxt (fun j => decide ((B j &&& (255 : Int32)) = oc)) F (if mN = n then F (n - 1) else mN)))) ∧ L = [] ∧ h = h0) 0 0) (s₁.setTop (entryFrame m #[(.ref a), (.int (Int32.ofNat mN)), (.int oc)] 4))
  rw [own_f13]
  show own_Go p e below _ (s₁.setTop (mkF m 0 #[.val (.ref a), .val (.int (Int32.ofNat mN)), .val (.int oc), .unset] []))
  have loop : ∀ (f k : Nat) (T : State), k ≤ f → k < n → Stand p l e ({ frames := 0, cells := 0, slots := 0, locals := 0 } : Room) s m #[(.ref a), (.int (Int32.ofNat mN)), (.int oc)] below meth c T [] 0 0 → T.heap = h0 → (∀ (T' : State), Stand p l e ({ frames := 0, cells := 0, slots := 0, locals := 0 } : Room) s m #[(.ref a), (.int (Int32.ofNat mN)), (.int oc)] below meth c T' [] 0 0 → T'.heap = h0 → own_Go p e below (own_G s (fun v h L => v = some (.int (Int32.ofNat (own_nxt (fun j => decide ((B j &&& (255 : Int32)) = oc)) F (if mN = n then F (n - 1) else mN)))) ∧ L = [] ∧ h = h0) 0 0) (T'.setTop (mkF m 52 #[.val (.ref a), .val (.int (Int32.ofNat mN)), .val (.int oc), .val (.int (Int32.ofNat (own_back (fun j => decide ((B j &&& (255 : Int32)) = oc)) F f k)))] []))) → own_Go p e below (own_G s (fun v h L => v = some (.int (Int32.ofNat (own_nxt (fun j => decide ((B j &&& (255 : Int32)) = oc)) F (if mN = n then F (n - 1) else mN)))) ∧ L = [] ∧ h = h0) 0 0) (T.setTop (mkF m 22 #[.val (.ref a), .val (.int (Int32.ofNat mN)), .val (.int oc), .val (.int (Int32.ofNat k))] [])) := by
    intro f
    induction f with
    | zero =>
      intro k T hk hki X eT kont
      obtain rfl : k = 0 := by omega
      show own_Go p e below _ (T.setTop (mkF m 22 #[.val (.ref a), .val (.int (Int32.ofNat mN)), .val (.int oc), .val (.int (Int32.ofNat 0))] []))
      refine own_go (XS.iloadN X.here hx rfl (hb hby own_next_22) rfl (Steps.refl _)) ?_
      show own_Go p e below _ (T.setTop (mkF m 23 #[.val (.ref a), .val (.int (Int32.ofNat mN)), .val (.int oc), .val (.int (Int32.ofNat 0))] [(.int (Int32.ofNat 0))]))
      refine own_go (XS.ifYes X.here hx rfl (pc0 := 23) (pc' := 52) rfl (hb hby own_next_23) rfl ((if0 _ _).trans (flt (by decide : ¬ (0 : Int32) < Int32.ofNat 0)).2.2.2) (by decide) (by decide) (Steps.refl _)) ?_
      show own_Go p e below _ (T.setTop (mkF m 52 #[.val (.ref a), .val (.int (Int32.ofNat mN)), .val (.int oc), .val (.int (Int32.ofNat 0))] []))
      exact kont T X eT
    | succ f ih =>
      intro k T hk hki X eT kont
      by_cases h0' : k = 0
      · subst h0'
        show own_Go p e below _ (T.setTop (mkF m 22 #[.val (.ref a), .val (.int (Int32.ofNat mN)), .val (.int oc), .val (.int (Int32.ofNat 0))] []))
        refine own_go (XS.iloadN X.here hx rfl (hb hby own_next_22) rfl (Steps.refl _)) ?_
        show own_Go p e below _ (T.setTop (mkF m 23 #[.val (.ref a), .val (.int (Int32.ofNat mN)), .val (.int oc), .val (.int (Int32.ofNat 0))] [(.int (Int32.ofNat 0))]))
        refine own_go (XS.ifYes X.here hx rfl (pc0 := 23) (pc' := 52) rfl (hb hby own_next_23) rfl ((if0 _ _).trans (flt (by decide : ¬ (0 : Int32) < Int32.ofNat 0)).2.2.2) (by decide) (by decide) (Steps.refl _)) ?_
        show own_Go p e below _ (T.setTop (mkF m 52 #[.val (.ref a), .val (.int (Int32.ofNat mN)), .val (.int oc), .val (.int (Int32.ofNat 0))] []))
        exact kont T X eT
      · show own_Go p e below _ (T.setTop (mkF m 22 #[.val (.ref a), .val (.int (Int32.ofNat mN)), .val (.int oc), .val (.int (Int32.ofNat k))] []))
        refine own_go (XS.iloadN X.here hx rfl (hb hby own_next_22) rfl (Steps.refl _)) ?_
        show own_Go p e below _ (T.setTop (mkF m 23 #[.val (.ref a), .val (.int (Int32.ofNat mN)), .val (.int oc), .val (.int (Int32.ofNat k))] [(.int (Int32.ofNat k))]))
        refine own_go (XS.ifNo X.here hx rfl (hb hby own_next_23) rfl ((if0 _ _).trans (tlt ((own_ltN (i := 0) (by omega) (by omega)).mpr (by omega))).2.2.2) (Steps.refl _)) ?_
        show own_Go p e below _ (T.setTop (mkF m 26 #[.val (.ref a), .val (.int (Int32.ofNat mN)), .val (.int oc), .val (.int (Int32.ofNat k))] []))
        refine own_go (XS.aloadN X.here hx rfl (hb hby own_next_26) rfl rfl (Steps.refl _)) ?_
        show own_Go p e below _ (T.setTop (mkF m 27 #[.val (.ref a), .val (.int (Int32.ofNat mN)), .val (.int oc), .val (.int (Int32.ofNat k))] [(.ref a)]))
        obtain ⟨T24, X24, e24, st24⟩ := getF X hx hZ hown (host := "") (Or.inl (hw _ (List.mem_of_getElem? (i := 31) rfl))) Via.refl eT Fo (g := (mkF m 27 #[.val (.ref a), .val (.int (Int32.ofNat mN)), .val (.int oc), .val (.int (Int32.ofNat k))] [(.ref a)])) rfl rfl (hb hby own_next_27)
        refine own_go (st24 _ (Steps.refl _)) ?_
        show own_Go p e below _ (T24.setTop (mkF m 30 #[.val (.ref a), .val (.int (Int32.ofNat mN)), .val (.int oc), .val (.int (Int32.ofNat k))] [(.ref oa)]))
        refine own_go (XS.iloadN X24.here hx rfl (hb hby own_next_30) rfl (Steps.refl _)) ?_
        show own_Go p e below _ (T24.setTop (mkF m 31 #[.val (.ref a), .val (.int (Int32.ofNat mN)), .val (.int oc), .val (.int (Int32.ofNat k))] [(.int (Int32.ofNat k)), (.ref oa)]))
        refine own_go (own_ldB X24 hx hZ e24 Vo (own_i0 (by omega)) ((own_ltN (by omega) (by omega)).mpr (by omega)) (v := (B k)) (own_getN B (by omega) (by omega)) (g := (mkF m 31 #[.val (.ref a), .val (.int (Int32.ofNat mN)), .val (.int oc), .val (.int (Int32.ofNat k))] [(.int (Int32.ofNat k)), (.ref oa)])) rfl rfl (hb hby own_next_31)) ?_
        show own_Go p e below _ (T24.setTop (mkF m 32 #[.val (.ref a), .val (.int (Int32.ofNat mN)), .val (.int oc), .val (.int (Int32.ofNat k))] [(.int (B k))]))
        refine own_go (XS.sipush X24.here hx rfl (hb hby own_next_32) (Steps.refl _)) ?_
        show own_Go p e below _ (T24.setTop (mkF m 35 #[.val (.ref a), .val (.int (Int32.ofNat mN)), .val (.int oc), .val (.int (Int32.ofNat k))] [(.int (255 : Int32)), (.int (B k))]))
        refine own_go (XS.iand X24.here hx rfl (hb hby own_next_35) rfl (Steps.refl _)) ?_
        show own_Go p e below _ (T24.setTop (mkF m 36 #[.val (.ref a), .val (.int (Int32.ofNat mN)), .val (.int oc), .val (.int (Int32.ofNat k))] [(.int ((B k) &&& (255 : Int32)))]))
        refine own_go (XS.iloadN X24.here hx rfl (hb hby own_next_36) rfl (Steps.refl _)) ?_
        show own_Go p e below _ (T24.setTop (mkF m 37 #[.val (.ref a), .val (.int (Int32.ofNat mN)), .val (.int oc), .val (.int (Int32.ofNat k))] [(.int oc), (.int ((B k) &&& (255 : Int32)))]))
        by_cases he : ((B k) &&& (255 : Int32)) = oc
        · refine own_go (XS.icmpYes X24.here hx rfl (pc0 := 37) (pc' := 52) rfl (hb hby own_next_37) rfl (teq he).1 (by decide) (by decide) (Steps.refl _)) ?_
          show own_Go p e below _ (T24.setTop (mkF m 52 #[.val (.ref a), .val (.int (Int32.ofNat mN)), .val (.int oc), .val (.int (Int32.ofNat k))] []))
          have eb : own_back (fun j => decide ((B j &&& (255 : Int32)) = oc)) F (f + 1) k = k := by simp [own_back, h0', he]
          rw [eb] at kont
          exact kont T24 X24 e24
        · refine own_go (XS.icmpNo X24.here hx rfl (hb hby own_next_37) rfl (feq he).1 (Steps.refl _)) ?_
          show own_Go p e below _ (T24.setTop (mkF m 40 #[.val (.ref a), .val (.int (Int32.ofNat mN)), .val (.int oc), .val (.int (Int32.ofNat k))] []))
          refine own_go (XS.aloadN X24.here hx rfl (hb hby own_next_40) rfl rfl (Steps.refl _)) ?_
          show own_Go p e below _ (T24.setTop (mkF m 41 #[.val (.ref a), .val (.int (Int32.ofNat mN)), .val (.int oc), .val (.int (Int32.ofNat k))] [(.ref a)]))
          obtain ⟨T25, X25, e25, st25⟩ := getF X24 hx hZ hown (host := "") (Or.inl (hw _ (List.mem_of_getElem? (i := 33) rfl))) Via.refl e24 Ff (g := (mkF m 41 #[.val (.ref a), .val (.int (Int32.ofNat mN)), .val (.int oc), .val (.int (Int32.ofNat k))] [(.ref a)])) rfl rfl (hb hby own_next_41)
          refine own_go (st25 _ (Steps.refl _)) ?_
          show own_Go p e below _ (T25.setTop (mkF m 44 #[.val (.ref a), .val (.int (Int32.ofNat mN)), .val (.int oc), .val (.int (Int32.ofNat k))] [(.ref fa)]))
          refine own_go (XS.iloadN X25.here hx rfl (hb hby own_next_44) rfl (Steps.refl _)) ?_
          show own_Go p e below _ (T25.setTop (mkF m 45 #[.val (.ref a), .val (.int (Int32.ofNat mN)), .val (.int oc), .val (.int (Int32.ofNat k))] [(.int (Int32.ofNat k)), (.ref fa)]))
          refine own_go (XS.iconst X25.here hx rfl (hb hby own_next_45) (Steps.refl _)) ?_
          show own_Go p e below _ (T25.setTop (mkF m 46 #[.val (.ref a), .val (.int (Int32.ofNat mN)), .val (.int oc), .val (.int (Int32.ofNat k))] [(.int (1 : Int32)), (.int (Int32.ofNat k)), (.ref fa)]))
          refine own_go (XS.isub X25.here hx rfl (hb hby own_next_46) rfl (Steps.refl _)) ?_
          show own_Go p e below _ (T25.setTop (mkF m 47 #[.val (.ref a), .val (.int (Int32.ofNat mN)), .val (.int oc), .val (.int (Int32.ofNat k))] [(.int ((Int32.ofNat k) - (1 : Int32))), (.ref fa)]))
          rw [show Int32.ofNat k - (1 : Int32) = Int32.ofNat (k - 1) from own_sub (j := 1) (by omega)]
          show own_Go p e below _ (T25.setTop (mkF m 47 #[.val (.ref a), .val (.int (Int32.ofNat mN)), .val (.int oc), .val (.int (Int32.ofNat k))] [(.int (Int32.ofNat (k - 1))), (.ref fa)]))
          refine own_go (own_ldI X25 hx hZ e25 Vf (own_i0 (by omega)) ((own_ltN (by omega) (by omega)).mpr (by omega)) (v := (Int32.ofNat (F (k - 1)))) (own_getN (fun j => Int32.ofNat (F j)) (n := 4) (by omega) (by omega)) (g := (mkF m 47 #[.val (.ref a), .val (.int (Int32.ofNat mN)), .val (.int oc), .val (.int (Int32.ofNat k))] [(.int (Int32.ofNat (k - 1))), (.ref fa)])) rfl rfl (hb hby own_next_47)) ?_
          show own_Go p e below _ (T25.setTop (mkF m 48 #[.val (.ref a), .val (.int (Int32.ofNat mN)), .val (.int oc), .val (.int (Int32.ofNat k))] [(.int (Int32.ofNat (F (k - 1))))]))
          refine own_go (XS.istoreN X25.here hx rfl (hb hby own_next_48) rfl (l' := #[.val (.ref a), .val (.int (Int32.ofNat mN)), .val (.int oc), .val (.int (Int32.ofNat (F (k - 1))))]) rfl (Steps.refl _)) ?_
          show own_Go p e below _ (T25.setTop (mkF m 49 #[.val (.ref a), .val (.int (Int32.ofNat mN)), .val (.int oc), .val (.int (Int32.ofNat (F (k - 1))))] []))
          refine own_go (XS.goto X25.here hx rfl (pc0 := 49) (pc' := 22) rfl (hb hby own_next_49) (by decide) (by decide) (Steps.refl _)) ?_
          show own_Go p e below _ (T25.setTop (mkF m 22 #[.val (.ref a), .val (.int (Int32.ofNat mN)), .val (.int oc), .val (.int (Int32.ofNat (F (k - 1))))] []))
          have hF1 := hF (k - 1)
          have eb : own_back (fun j => decide ((B j &&& (255 : Int32)) = oc)) F (f + 1) k = own_back (fun j => decide ((B j &&& (255 : Int32)) = oc)) F f (F (k - 1)) := by simp [own_back, h0', he]
          rw [eb] at kont
          exact ih (F (k - 1)) T25 (by omega) (by omega) X25 e25 kont
  show own_Go p e below _ (s₁.setTop (mkF m 0 #[.val (.ref a), .val (.int (Int32.ofNat mN)), .val (.int oc), .unset] []))
  refine own_go (XS.iloadN X0.here hx rfl (hb hby own_next_0) rfl (Steps.refl _)) ?_
  show own_Go p e below _ (s₁.setTop (mkF m 1 #[.val (.ref a), .val (.int (Int32.ofNat mN)), .val (.int oc), .unset] [(.int (Int32.ofNat mN))]))
  refine own_go (XS.aloadN X0.here hx rfl (hb hby own_next_1) rfl rfl (Steps.refl _)) ?_
  show own_Go p e below _ (s₁.setTop (mkF m 2 #[.val (.ref a), .val (.int (Int32.ofNat mN)), .val (.int oc), .unset] [(.ref a), (.int (Int32.ofNat mN))]))
  obtain ⟨T26, X26, e26, st26⟩ := getF X0 hx hZ hown (host := "") (Or.inl (hw _ (List.mem_of_getElem? (i := 31) rfl))) Via.refl e0 Fo (g := (mkF m 2 #[.val (.ref a), .val (.int (Int32.ofNat mN)), .val (.int oc), .unset] [(.ref a), (.int (Int32.ofNat mN))])) rfl rfl (hb hby own_next_2)
  refine own_go (st26 _ (Steps.refl _)) ?_
  show own_Go p e below _ (T26.setTop (mkF m 5 #[.val (.ref a), .val (.int (Int32.ofNat mN)), .val (.int oc), .unset] [(.ref oa), (.int (Int32.ofNat mN))]))
  refine own_go (own_len X26 hx hZ e26 Vo (g := (mkF m 5 #[.val (.ref a), .val (.int (Int32.ofNat mN)), .val (.int oc), .unset] [(.ref oa), (.int (Int32.ofNat mN))])) rfl rfl (hb hby own_next_5)) ?_
  show own_Go p e below _ (T26.setTop (mkF m 6 #[.val (.ref a), .val (.int (Int32.ofNat mN)), .val (.int oc), .unset] [(.int (Int32.ofNat n)), (.int (Int32.ofNat mN))]))
  suffices J : ∀ (k : Nat) (TJ : State), k = (if mN = n then F (n - 1) else mN) → k < n → Stand p l e ({ frames := 0, cells := 0, slots := 0, locals := 0 } : Room) s m #[(.ref a), (.int (Int32.ofNat mN)), (.int oc)] below meth c TJ [] 0 0 → TJ.heap = h0 → own_Go p e below (own_G s (fun v h L => v = some (.int (Int32.ofNat (own_nxt (fun j => decide ((B j &&& (255 : Int32)) = oc)) F (if mN = n then F (n - 1) else mN)))) ∧ L = [] ∧ h = h0) 0 0) (TJ.setTop (mkF m 21 #[.val (.ref a), .val (.int (Int32.ofNat mN)), .val (.int oc), .unset] [(.int (Int32.ofNat k))])) by
    by_cases hc : (Int32.ofNat mN) = (Int32.ofNat n)
    · have hmn : mN = n := (own_eqN (by omega) (by omega)).mp hc
      refine own_go (XS.icmpNo X26.here hx rfl (hb hby own_next_6) rfl (teq hc).2 (Steps.refl _)) ?_
      show own_Go p e below _ (T26.setTop (mkF m 9 #[.val (.ref a), .val (.int (Int32.ofNat mN)), .val (.int oc), .unset] []))
      refine own_go (XS.aloadN X26.here hx rfl (hb hby own_next_9) rfl rfl (Steps.refl _)) ?_
      show own_Go p e below _ (T26.setTop (mkF m 10 #[.val (.ref a), .val (.int (Int32.ofNat mN)), .val (.int oc), .unset] [(.ref a)]))
      obtain ⟨T27, X27, e27, st27⟩ := getF X26 hx hZ hown (host := "") (Or.inl (hw _ (List.mem_of_getElem? (i := 33) rfl))) Via.refl e26 Ff (g := (mkF m 10 #[.val (.ref a), .val (.int (Int32.ofNat mN)), .val (.int oc), .unset] [(.ref a)])) rfl rfl (hb hby own_next_10)
      refine own_go (st27 _ (Steps.refl _)) ?_
      show own_Go p e below _ (T27.setTop (mkF m 13 #[.val (.ref a), .val (.int (Int32.ofNat mN)), .val (.int oc), .unset] [(.ref fa)]))
      refine own_go (XS.iloadN X27.here hx rfl (hb hby own_next_13) rfl (Steps.refl _)) ?_
      show own_Go p e below _ (T27.setTop (mkF m 14 #[.val (.ref a), .val (.int (Int32.ofNat mN)), .val (.int oc), .unset] [(.int (Int32.ofNat mN)), (.ref fa)]))
      refine own_go (XS.iconst X27.here hx rfl (hb hby own_next_14) (Steps.refl _)) ?_
      show own_Go p e below _ (T27.setTop (mkF m 15 #[.val (.ref a), .val (.int (Int32.ofNat mN)), .val (.int oc), .unset] [(.int (1 : Int32)), (.int (Int32.ofNat mN)), (.ref fa)]))
      refine own_go (XS.isub X27.here hx rfl (hb hby own_next_15) rfl (Steps.refl _)) ?_
      show own_Go p e below _ (T27.setTop (mkF m 16 #[.val (.ref a), .val (.int (Int32.ofNat mN)), .val (.int oc), .unset] [(.int ((Int32.ofNat mN) - (1 : Int32))), (.ref fa)]))
      rw [show Int32.ofNat mN - (1 : Int32) = Int32.ofNat (mN - 1) from own_sub (j := 1) (by omega)]
      show own_Go p e below _ (T27.setTop (mkF m 16 #[.val (.ref a), .val (.int (Int32.ofNat mN)), .val (.int oc), .unset] [(.int (Int32.ofNat (mN - 1))), (.ref fa)]))
      refine own_go (own_ldI X27 hx hZ e27 Vf (own_i0 (by omega)) ((own_ltN (by omega) (by omega)).mpr (by omega)) (v := (Int32.ofNat (F (mN - 1)))) (own_getN (fun j => Int32.ofNat (F j)) (n := 4) (by omega) (by omega)) (g := (mkF m 16 #[.val (.ref a), .val (.int (Int32.ofNat mN)), .val (.int oc), .unset] [(.int (Int32.ofNat (mN - 1))), (.ref fa)])) rfl rfl (hb hby own_next_16)) ?_
      show own_Go p e below _ (T27.setTop (mkF m 17 #[.val (.ref a), .val (.int (Int32.ofNat mN)), .val (.int oc), .unset] [(.int (Int32.ofNat (F (mN - 1))))]))
      refine own_go (XS.goto X27.here hx rfl (pc0 := 17) (pc' := 21) rfl (hb hby own_next_17) (by decide) (by decide) (Steps.refl _)) ?_
      show own_Go p e below _ (T27.setTop (mkF m 21 #[.val (.ref a), .val (.int (Int32.ofNat mN)), .val (.int oc), .unset] [(.int (Int32.ofNat (F (mN - 1))))]))
      have hF1 := hF (mN - 1)
      exact J _ _ (by rw [if_pos hmn, hmn]) (by omega) X27 e27
    · have hmn : ¬ mN = n := fun u => hc ((own_eqN (by omega) (by omega)).mpr u)
      refine own_go (XS.icmpYes X26.here hx rfl (pc0 := 6) (pc' := 20) rfl (hb hby own_next_6) rfl (feq hc).2 (by decide) (by decide) (Steps.refl _)) ?_
      show own_Go p e below _ (T26.setTop (mkF m 20 #[.val (.ref a), .val (.int (Int32.ofNat mN)), .val (.int oc), .unset] []))
      refine own_go (XS.iloadN X26.here hx rfl (hb hby own_next_20) rfl (Steps.refl _)) ?_
      show own_Go p e below _ (T26.setTop (mkF m 21 #[.val (.ref a), .val (.int (Int32.ofNat mN)), .val (.int oc), .unset] [(.int (Int32.ofNat mN))]))
      exact J _ _ (by rw [if_neg hmn]) (by omega) X26 e26
  intro k TJ hk hkn XJ eJ
  show own_Go p e below _ (TJ.setTop (mkF m 21 #[.val (.ref a), .val (.int (Int32.ofNat mN)), .val (.int oc), .unset] [(.int (Int32.ofNat k))]))
  refine own_go (XS.istoreN XJ.here hx rfl (hb hby own_next_21) rfl (l' := #[.val (.ref a), .val (.int (Int32.ofNat mN)), .val (.int oc), .val (.int (Int32.ofNat k))]) rfl (Steps.refl _)) ?_
  show own_Go p e below _ (TJ.setTop (mkF m 22 #[.val (.ref a), .val (.int (Int32.ofNat mN)), .val (.int oc), .val (.int (Int32.ofNat k))] []))
  refine loop 4 k TJ (by omega) hkn XJ eJ ?_
  intro T2 X2 e2
  obtain ⟨j, hj⟩ : ∃ j, j = own_back (fun j => decide ((B j &&& (255 : Int32)) = oc)) F 4 k := ⟨_, rfl⟩
  have hjk : j ≤ k := by rw [hj]; exact own_back_le hF 4 k
  rw [← hj]
  show own_Go p e below _ (T2.setTop (mkF m 52 #[.val (.ref a), .val (.int (Int32.ofNat mN)), .val (.int oc), .val (.int (Int32.ofNat j))] []))
  refine own_go (XS.aloadN X2.here hx rfl (hb hby own_next_52) rfl rfl (Steps.refl _)) ?_
  show own_Go p e below _ (T2.setTop (mkF m 53 #[.val (.ref a), .val (.int (Int32.ofNat mN)), .val (.int oc), .val (.int (Int32.ofNat j))] [(.ref a)]))
  obtain ⟨T28, X28, e28, st28⟩ := getF X2 hx hZ hown (host := "") (Or.inl (hw _ (List.mem_of_getElem? (i := 31) rfl))) Via.refl e2 Fo (g := (mkF m 53 #[.val (.ref a), .val (.int (Int32.ofNat mN)), .val (.int oc), .val (.int (Int32.ofNat j))] [(.ref a)])) rfl rfl (hb hby own_next_53)
  refine own_go (st28 _ (Steps.refl _)) ?_
  show own_Go p e below _ (T28.setTop (mkF m 56 #[.val (.ref a), .val (.int (Int32.ofNat mN)), .val (.int oc), .val (.int (Int32.ofNat j))] [(.ref oa)]))
  refine own_go (XS.iloadN X28.here hx rfl (hb hby own_next_56) rfl (Steps.refl _)) ?_
  show own_Go p e below _ (T28.setTop (mkF m 57 #[.val (.ref a), .val (.int (Int32.ofNat mN)), .val (.int oc), .val (.int (Int32.ofNat j))] [(.int (Int32.ofNat j)), (.ref oa)]))
  refine own_go (own_ldB X28 hx hZ e28 Vo (own_i0 (by omega)) ((own_ltN (by omega) (by omega)).mpr (by omega)) (v := (B j)) (own_getN B (by omega) (by omega)) (g := (mkF m 57 #[.val (.ref a), .val (.int (Int32.ofNat mN)), .val (.int oc), .val (.int (Int32.ofNat j))] [(.int (Int32.ofNat j)), (.ref oa)])) rfl rfl (hb hby own_next_57)) ?_
  show own_Go p e below _ (T28.setTop (mkF m 58 #[.val (.ref a), .val (.int (Int32.ofNat mN)), .val (.int oc), .val (.int (Int32.ofNat j))] [(.int (B j))]))
  refine own_go (XS.sipush X28.here hx rfl (hb hby own_next_58) (Steps.refl _)) ?_
  show own_Go p e below _ (T28.setTop (mkF m 61 #[.val (.ref a), .val (.int (Int32.ofNat mN)), .val (.int oc), .val (.int (Int32.ofNat j))] [(.int (255 : Int32)), (.int (B j))]))
  refine own_go (XS.iand X28.here hx rfl (hb hby own_next_61) rfl (Steps.refl _)) ?_
  show own_Go p e below _ (T28.setTop (mkF m 62 #[.val (.ref a), .val (.int (Int32.ofNat mN)), .val (.int oc), .val (.int (Int32.ofNat j))] [(.int ((B j) &&& (255 : Int32)))]))
  refine own_go (XS.iloadN X28.here hx rfl (hb hby own_next_62) rfl (Steps.refl _)) ?_
  show own_Go p e below _ (T28.setTop (mkF m 63 #[.val (.ref a), .val (.int (Int32.ofNat mN)), .val (.int oc), .val (.int (Int32.ofNat j))] [(.int oc), (.int ((B j) &&& (255 : Int32)))]))
  by_cases he : ((B j) &&& (255 : Int32)) = oc
  · refine own_go (XS.icmpNo X28.here hx rfl (hb hby own_next_63) rfl (teq he).2 (Steps.refl _)) ?_
    show own_Go p e below _ (T28.setTop (mkF m 66 #[.val (.ref a), .val (.int (Int32.ofNat mN)), .val (.int oc), .val (.int (Int32.ofNat j))] []))
    refine own_go (XS.iinc X28.here hx rfl (hb hby own_next_66) rfl (l' := #[.val (.ref a), .val (.int (Int32.ofNat mN)), .val (.int oc), .val (.int ((Int32.ofNat j) + (1 : Int32)))]) rfl (Steps.refl _)) ?_
    show own_Go p e below _ (T28.setTop (mkF m 69 #[.val (.ref a), .val (.int (Int32.ofNat mN)), .val (.int oc), .val (.int ((Int32.ofNat j) + (1 : Int32)))] []))
    rw [own_n1]
    show own_Go p e below _ (T28.setTop (mkF m 69 #[.val (.ref a), .val (.int (Int32.ofNat mN)), .val (.int oc), .val (.int (Int32.ofNat (j + 1)))] []))
    refine own_go (XS.iloadN X28.here hx rfl (hb hby own_next_69) rfl (Steps.refl _)) ?_
    show own_Go p e below _ (T28.setTop (mkF m 70 #[.val (.ref a), .val (.int (Int32.ofNat mN)), .val (.int oc), .val (.int (Int32.ofNat (j + 1)))] [(.int (Int32.ofNat (j + 1)))]))
    exact own_retI X28 hx hlk e28 Bd.returns (hb hby own_next_70) ⟨congrArg (fun u => some (Value.int u)) (congrArg Int32.ofNat (by rw [← hk]; simp [own_nxt, ← hj, he])), rfl, rfl⟩ (by decide) (by decide)
  · refine own_go (XS.icmpYes X28.here hx rfl (pc0 := 63) (pc' := 69) rfl (hb hby own_next_63) rfl (feq he).2 (by decide) (by decide) (Steps.refl _)) ?_
    show own_Go p e below _ (T28.setTop (mkF m 69 #[.val (.ref a), .val (.int (Int32.ofNat mN)), .val (.int oc), .val (.int (Int32.ofNat j))] []))
    refine own_go (XS.iloadN X28.here hx rfl (hb hby own_next_69) rfl (Steps.refl _)) ?_
    show own_Go p e below _ (T28.setTop (mkF m 70 #[.val (.ref a), .val (.int (Int32.ofNat mN)), .val (.int oc), .val (.int (Int32.ofNat j))] [(.int (Int32.ofNat j))]))
    exact own_retI X28 hx hlk e28 Bd.returns (hb hby own_next_70) ⟨congrArg (fun u => some (Value.int u)) (congrArg Int32.ofNat (by rw [← hk]; simp [own_nxt, ← hj, he])), rfl, rfl⟩ (by decide) (by decide)
theorem own_f14 : parseMethodDescriptor "([IIII)I" = some ⟨[(.array .int), .int, .int, .int], some .int⟩ := by decide +kernel
theorem own_f15 : parseMethodDescriptor "([II[II)Z" = some ⟨[(.array .int), .int, (.array .int), .int], some .boolean⟩ := by decide +kernel
theorem own_f16 : parseMethodDescriptor "(II)[B" = some ⟨[.int, .int], some (.array .byte)⟩ := by decide +kernel
theorem own_f17 : parseMethodDescriptor "([B)V" = some ⟨[(.array .byte)], none⟩ := by decide +kernel
theorem own_f18 : parseMethodDescriptor "(II)I" = some ⟨[.int, .int], some .int⟩ := by decide +kernel
theorem own_f19 (m : MethodId) (x0 : Int32) (x1 : Int32) (x2 : Int32) (x3 : Int32) : entryFrame m #[(.int x0), (.int x1), (.int x2), (.int x3)] maxLocals = mkF m 0 #[.val (.int x0), .val (.int x1), .val (.int x2), .val (.int x3), .unset, .unset, .unset, .unset, .unset, .unset, .unset, .unset, .unset, .unset] [] := by first | (simp [entryFrame, mkF, argsToLocals, Value.category, maxLocals]; done) | rfl
set_option maxRecDepth 65536 in
set_option maxHeartbeats 40000000 in
theorem rm_law (l : Launch) (Z : State) (a0 : Array Value) (hw : ∀ d ∈ tables_1, d.before a0 Z = true) (pr oct mr ls : Int32) (h0 : Heap) (n0 : Nat) (Z0 : n0 ≤ h0.size)  :
    own_MetL l Z (#[(.int pr), (.int oct), (.int mr), (.int ls)]) h0 (fun v h L => v = some (.int 1) ∧ Fr n0 L) := by
  refine MetFree.of_bodySF (plainFor_of_name own_f1) hisR ?_
  intro p e s m args below meth c s₁ Bd hml0 hP hK
  obtain ⟨rfl, hZ, hh⟩ := hP
  have hx := Bd.exec
  have hby := Bd.bytes
  have hlk : meth.locks = false := Bd.notSynchronized
  have hml : c.maxLocals = 14 := hml0
  have hown : s.vm.findClass "com/example/crossweave/crossweave/soap/OctetPatternNextPinLaw" = some m.cls := findClass_of_methodNamed Bd.named
  have hnm := (name_of_methodNamed Bd.named Bd.method).1
  have X0 : Stand p l e room_1 s m #[(.int pr), (.int oct), (.int mr), (.int ls)] below meth c s₁ [] 0 0 := Stand.of_body Bd
  have e0 : s₁.heap = h0 := by rw [← hh, Bd.state]; rfl
  show own_Go p e below (own_G s (fun v h L => v = some (.int 1) ∧ Fr n0 L) room_1.cells room_1.slots) (s₁.setTop (entryFrame m #[(.int pr), (.int oct), (.int mr), (.int ls)] maxLocals))
  rw [own_f19]
  show own_Go p e below _ (s₁.setTop (mkF m 0 #[.val (.int pr), .val (.int oct), .val (.int mr), .val (.int ls), .unset, .unset, .unset, .unset, .unset, .unset, .unset, .unset, .unset, .unset] []))
  refine own_go (XS.iconst X0.here hx rfl (hb hby at_0) (Steps.refl _)) ?_
  show own_Go p e below _ (s₁.setTop (mkF m 1 #[.val (.int pr), .val (.int oct), .val (.int mr), .val (.int ls), .unset, .unset, .unset, .unset, .unset, .unset, .unset, .unset, .unset, .unset] [(.int (1 : Int32))]))
  refine own_go (XS.iloadN X0.here hx rfl (hb hby at_1) rfl (Steps.refl _)) ?_
  show own_Go p e below _ (s₁.setTop (mkF m 2 #[.val (.int pr), .val (.int oct), .val (.int mr), .val (.int ls), .unset, .unset, .unset, .unset, .unset, .unset, .unset, .unset, .unset, .unset] [(.int ls), (.int (1 : Int32))]))
  refine own_go (XS.iconst X0.here hx rfl (hb hby at_2) (Steps.refl _)) ?_
  show own_Go p e below _ (s₁.setTop (mkF m 3 #[.val (.int pr), .val (.int oct), .val (.int mr), .val (.int ls), .unset, .unset, .unset, .unset, .unset, .unset, .unset, .unset, .unset, .unset] [(.int (3 : Int32)), (.int ls), (.int (1 : Int32))]))
  refine own_go (XS.iand X0.here hx rfl (hb hby at_3) rfl (Steps.refl _)) ?_
  show own_Go p e below _ (s₁.setTop (mkF m 4 #[.val (.int pr), .val (.int oct), .val (.int mr), .val (.int ls), .unset, .unset, .unset, .unset, .unset, .unset, .unset, .unset, .unset, .unset] [(.int (ls &&& (3 : Int32))), (.int (1 : Int32))]))
  refine own_go (XS.iadd X0.here hx rfl (hb hby at_4) rfl (Steps.refl _)) ?_
  show own_Go p e below _ (s₁.setTop (mkF m 5 #[.val (.int pr), .val (.int oct), .val (.int mr), .val (.int ls), .unset, .unset, .unset, .unset, .unset, .unset, .unset, .unset, .unset, .unset] [(.int ((1 : Int32) + (ls &&& (3 : Int32))))]))
  obtain ⟨n, hn, hn4, en⟩ : ∃ n : Nat, 1 ≤ n ∧ n ≤ 4 ∧ (1 : Int32) + (ls &&& (3 : Int32)) = Int32.ofNat n := by
    obtain ⟨j, hj, ej⟩ := own_small ls 3 2 (by decide) (by decide)
    exact ⟨1 + j, by omega, by omega, by rw [ej]; exact own_add 1 j⟩
  rw [en]
  show own_Go p e below _ (s₁.setTop (mkF m 5 #[.val (.int pr), .val (.int oct), .val (.int mr), .val (.int ls), .unset, .unset, .unset, .unset, .unset, .unset, .unset, .unset, .unset, .unset] [(.int (Int32.ofNat n))]))
  refine own_go (XS.istore X0.here hx rfl (hb hby at_5) rfl (l' := #[.val (.int pr), .val (.int oct), .val (.int mr), .val (.int ls), .val (.int (Int32.ofNat n)), .unset, .unset, .unset, .unset, .unset, .unset, .unset, .unset, .unset]) rfl (Steps.refl _)) ?_
  show own_Go p e below _ (s₁.setTop (mkF m 7 #[.val (.int pr), .val (.int oct), .val (.int mr), .val (.int ls), .val (.int (Int32.ofNat n)), .unset, .unset, .unset, .unset, .unset, .unset, .unset, .unset, .unset] []))
  refine own_go (XS.iloadN X0.here hx rfl (hb hby at_7) rfl (Steps.refl _)) ?_
  show own_Go p e below _ (s₁.setTop (mkF m 8 #[.val (.int pr), .val (.int oct), .val (.int mr), .val (.int ls), .val (.int (Int32.ofNat n)), .unset, .unset, .unset, .unset, .unset, .unset, .unset, .unset, .unset] [(.int ls)]))
  refine own_go (XS.iconst X0.here hx rfl (hb hby at_8) (Steps.refl _)) ?_
  show own_Go p e below _ (s₁.setTop (mkF m 9 #[.val (.int pr), .val (.int oct), .val (.int mr), .val (.int ls), .val (.int (Int32.ofNat n)), .unset, .unset, .unset, .unset, .unset, .unset, .unset, .unset, .unset] [(.int (4 : Int32)), (.int ls)]))
  refine own_go (XS.iand X0.here hx rfl (hb hby at_9) rfl (Steps.refl _)) ?_
  show own_Go p e below _ (s₁.setTop (mkF m 10 #[.val (.int pr), .val (.int oct), .val (.int mr), .val (.int ls), .val (.int (Int32.ofNat n)), .unset, .unset, .unset, .unset, .unset, .unset, .unset, .unset, .unset] [(.int (ls &&& (4 : Int32)))]))
  suffices J1 : ∀ pt : Int32, True → own_Go p e below (own_G s (fun v h L => v = some (.int 1) ∧ Fr n0 L) room_1.cells room_1.slots) (s₁.setTop (mkF m 21 #[.val (.int pr), .val (.int oct), .val (.int mr), .val (.int ls), .val (.int (Int32.ofNat n)), .unset, .unset, .unset, .unset, .unset, .unset, .unset, .unset, .unset] [(.int pt)])) by
    by_cases hc10 : (ls &&& (4 : Int32)) = (0 : Int32)
    · refine own_go (XS.ifYes X0.here hx rfl (pc0 := 10) (pc' := 20) rfl (hb hby at_10) rfl ((if0 _ _).trans (teq hc10).1) (by decide) (by decide) (Steps.refl _)) ?_
      show own_Go p e below _ (s₁.setTop (mkF m 20 #[.val (.int pr), .val (.int oct), .val (.int mr), .val (.int ls), .val (.int (Int32.ofNat n)), .unset, .unset, .unset, .unset, .unset, .unset, .unset, .unset, .unset] []))
      refine own_go (XS.iloadN X0.here hx rfl (hb hby at_20) rfl (Steps.refl _)) ?_
      show own_Go p e below _ (s₁.setTop (mkF m 21 #[.val (.int pr), .val (.int oct), .val (.int mr), .val (.int ls), .val (.int (Int32.ofNat n)), .unset, .unset, .unset, .unset, .unset, .unset, .unset, .unset, .unset] [(.int pr)]))
      exact J1 _ trivial
    · refine own_go (XS.ifNo X0.here hx rfl (hb hby at_10) rfl ((if0 _ _).trans (feq hc10).1) (Steps.refl _)) ?_
      show own_Go p e below _ (s₁.setTop (mkF m 13 #[.val (.int pr), .val (.int oct), .val (.int mr), .val (.int ls), .val (.int (Int32.ofNat n)), .unset, .unset, .unset, .unset, .unset, .unset, .unset, .unset, .unset] []))
      refine own_go (XS.iloadN X0.here hx rfl (hb hby at_13) rfl (Steps.refl _)) ?_
      show own_Go p e below _ (s₁.setTop (mkF m 14 #[.val (.int pr), .val (.int oct), .val (.int mr), .val (.int ls), .val (.int (Int32.ofNat n)), .unset, .unset, .unset, .unset, .unset, .unset, .unset, .unset, .unset] [(.int pr)]))
      refine own_go (X0.ldcInt hx hown (mvT hZ (hw _ (List.mem_of_getElem? (i := 40) rfl))) (g := (mkF m 14 #[.val (.int pr), .val (.int oct), .val (.int mr), .val (.int ls), .val (.int (Int32.ofNat n)), .unset, .unset, .unset, .unset, .unset, .unset, .unset, .unset, .unset] [(.int pr)])) rfl (hb hby at_14) _ (Steps.refl _)) ?_
      show own_Go p e below _ (s₁.setTop (mkF m 16 #[.val (.int pr), .val (.int oct), .val (.int mr), .val (.int ls), .val (.int (Int32.ofNat n)), .unset, .unset, .unset, .unset, .unset, .unset, .unset, .unset, .unset] [(.int (16843009 : Int32)), (.int pr)]))
      refine own_go (XS.iand X0.here hx rfl (hb hby at_16) rfl (Steps.refl _)) ?_
      show own_Go p e below _ (s₁.setTop (mkF m 17 #[.val (.int pr), .val (.int oct), .val (.int mr), .val (.int ls), .val (.int (Int32.ofNat n)), .unset, .unset, .unset, .unset, .unset, .unset, .unset, .unset, .unset] [(.int (pr &&& (16843009 : Int32)))]))
      refine own_go (XS.goto X0.here hx rfl (pc0 := 17) (pc' := 21) rfl (hb hby at_17) (by decide) (by decide) (Steps.refl _)) ?_
      show own_Go p e below _ (s₁.setTop (mkF m 21 #[.val (.int pr), .val (.int oct), .val (.int mr), .val (.int ls), .val (.int (Int32.ofNat n)), .unset, .unset, .unset, .unset, .unset, .unset, .unset, .unset, .unset] [(.int (pr &&& (16843009 : Int32)))]))
      exact J1 _ trivial
  intro pt _
  show own_Go p e below _ (s₁.setTop (mkF m 21 #[.val (.int pr), .val (.int oct), .val (.int mr), .val (.int ls), .val (.int (Int32.ofNat n)), .unset, .unset, .unset, .unset, .unset, .unset, .unset, .unset, .unset] [(.int pt)]))
  refine own_go (XS.istore X0.here hx rfl (hb hby at_21) rfl (l' := #[.val (.int pr), .val (.int oct), .val (.int mr), .val (.int ls), .val (.int (Int32.ofNat n)), .val (.int pt), .unset, .unset, .unset, .unset, .unset, .unset, .unset, .unset]) rfl (Steps.refl _)) ?_
  show own_Go p e below _ (s₁.setTop (mkF m 23 #[.val (.int pr), .val (.int oct), .val (.int mr), .val (.int ls), .val (.int (Int32.ofNat n)), .val (.int pt), .unset, .unset, .unset, .unset, .unset, .unset, .unset, .unset] []))
  refine own_go (XS.iconst X0.here hx rfl (hb hby at_23) (Steps.refl _)) ?_
  show own_Go p e below _ (s₁.setTop (mkF m 24 #[.val (.int pr), .val (.int oct), .val (.int mr), .val (.int ls), .val (.int (Int32.ofNat n)), .val (.int pt), .unset, .unset, .unset, .unset, .unset, .unset, .unset, .unset] [(.int (4 : Int32))]))
  obtain ⟨T29, h29, c29, b29, g29, X29, e29, E29, V29', st29⟩ := own_newP X0 hx hZ (hw _ (List.mem_of_getElem? (i := 0) rfl)) e0 (g := (mkF m 24 #[.val (.int pr), .val (.int oct), .val (.int mr), .val (.int ls), .val (.int (Int32.ofNat n)), .val (.int pt), .unset, .unset, .unset, .unset, .unset, .unset, .unset, .unset] [(.int (4 : Int32))])) rfl (hb hby at_24) rfl (by decide) (cap := 4) (by decide) (by decide) (by decide) (by decide)
  have V29 : Arv Z h29 b29 c29 .int (4 : Int32) [(.int (0 : Int32)), (.int (0 : Int32)), (.int (0 : Int32)), (.int (0 : Int32))] (.int (0 : Int32)) := V29'
  have ge_b29 : n0 ≤ b29 := Nat.le_trans Z0 (Nat.le_of_eq g29.symm)
  have Zl29 : n0 ≤ h29.size := Nat.le_trans Z0 E29.1
  refine own_go st29 ?_
  show own_Go p e below _ (T29.setTop (mkF m 26 #[.val (.int pr), .val (.int oct), .val (.int mr), .val (.int ls), .val (.int (Int32.ofNat n)), .val (.int pt), .unset, .unset, .unset, .unset, .unset, .unset, .unset, .unset] [(.ref b29)]))
  refine own_go (XS.astore X29.here hx rfl (hb hby at_26) rfl rfl (l' := #[.val (.int pr), .val (.int oct), .val (.int mr), .val (.int ls), .val (.int (Int32.ofNat n)), .val (.int pt), .val (.ref b29), .unset, .unset, .unset, .unset, .unset, .unset, .unset]) rfl (Steps.refl _)) ?_
  show own_Go p e below _ (T29.setTop (mkF m 28 #[.val (.int pr), .val (.int oct), .val (.int mr), .val (.int ls), .val (.int (Int32.ofNat n)), .val (.int pt), .val (.ref b29), .unset, .unset, .unset, .unset, .unset, .unset, .unset] []))
  refine own_go (XS.aload X29.here hx rfl (hb hby at_28) rfl rfl (Steps.refl _)) ?_
  show own_Go p e below _ (T29.setTop (mkF m 30 #[.val (.int pr), .val (.int oct), .val (.int mr), .val (.int ls), .val (.int (Int32.ofNat n)), .val (.int pt), .val (.ref b29), .unset, .unset, .unset, .unset, .unset, .unset, .unset] [(.ref b29)]))
  refine own_go (XS.iconst X29.here hx rfl (hb hby at_30) (Steps.refl _)) ?_
  show own_Go p e below _ (T29.setTop (mkF m 31 #[.val (.int pr), .val (.int oct), .val (.int mr), .val (.int ls), .val (.int (Int32.ofNat n)), .val (.int pt), .val (.ref b29), .unset, .unset, .unset, .unset, .unset, .unset, .unset] [(.int (0 : Int32)), (.ref b29)]))
  refine own_go (XS.iload X29.here hx rfl (hb hby at_31) rfl (Steps.refl _)) ?_
  show own_Go p e below _ (T29.setTop (mkF m 33 #[.val (.int pr), .val (.int oct), .val (.int mr), .val (.int ls), .val (.int (Int32.ofNat n)), .val (.int pt), .val (.ref b29), .unset, .unset, .unset, .unset, .unset, .unset, .unset] [(.int pt), (.int (0 : Int32)), (.ref b29)]))
  refine own_go (XS.sipush X29.here hx rfl (hb hby at_33) (Steps.refl _)) ?_
  show own_Go p e below _ (T29.setTop (mkF m 36 #[.val (.int pr), .val (.int oct), .val (.int mr), .val (.int ls), .val (.int (Int32.ofNat n)), .val (.int pt), .val (.ref b29), .unset, .unset, .unset, .unset, .unset, .unset, .unset] [(.int (255 : Int32)), (.int pt), (.int (0 : Int32)), (.ref b29)]))
  refine own_go (XS.iand X29.here hx rfl (hb hby at_36) rfl (Steps.refl _)) ?_
  show own_Go p e below _ (T29.setTop (mkF m 37 #[.val (.int pr), .val (.int oct), .val (.int mr), .val (.int ls), .val (.int (Int32.ofNat n)), .val (.int pt), .val (.ref b29), .unset, .unset, .unset, .unset, .unset, .unset, .unset] [(.int (pt &&& (255 : Int32))), (.int (0 : Int32)), (.ref b29)]))
  obtain ⟨T30, h30, X30, e30, W30, V30', st30⟩ := own_stI X29 hx hZ e29 V29 (by decide) (by decide) (g := (mkF m 37 #[.val (.int pr), .val (.int oct), .val (.int mr), .val (.int ls), .val (.int (Int32.ofNat n)), .val (.int pt), .val (.ref b29), .unset, .unset, .unset, .unset, .unset, .unset, .unset] [(.int (pt &&& (255 : Int32))), (.int (0 : Int32)), (.ref b29)])) rfl rfl (hb hby at_37) (i := 0) rfl (Nat.le_of_ble_eq_true rfl)
  have V30 : Arv Z h30 b29 c29 .int (4 : Int32) [(.int (pt &&& (255 : Int32))), (.int (0 : Int32)), (.int (0 : Int32)), (.int (0 : Int32))] (.int (0 : Int32)) := V30'
  have N30 := Fr.snoc X30 (Fr.nil n0) ge_b29
  have Zl30 : n0 ≤ h30.size := Nat.le_trans Zl29 (Keep.of_wr W30).1
  refine own_go st30 ?_
  show own_Go p e below _ (T30.setTop (mkF m 38 #[.val (.int pr), .val (.int oct), .val (.int mr), .val (.int ls), .val (.int (Int32.ofNat n)), .val (.int pt), .val (.ref b29), .unset, .unset, .unset, .unset, .unset, .unset, .unset] []))
  refine own_go (XS.aload X30.here hx rfl (hb hby at_38) rfl rfl (Steps.refl _)) ?_
  show own_Go p e below _ (T30.setTop (mkF m 40 #[.val (.int pr), .val (.int oct), .val (.int mr), .val (.int ls), .val (.int (Int32.ofNat n)), .val (.int pt), .val (.ref b29), .unset, .unset, .unset, .unset, .unset, .unset, .unset] [(.ref b29)]))
  refine own_go (XS.iconst X30.here hx rfl (hb hby at_40) (Steps.refl _)) ?_
  show own_Go p e below _ (T30.setTop (mkF m 41 #[.val (.int pr), .val (.int oct), .val (.int mr), .val (.int ls), .val (.int (Int32.ofNat n)), .val (.int pt), .val (.ref b29), .unset, .unset, .unset, .unset, .unset, .unset, .unset] [(.int (1 : Int32)), (.ref b29)]))
  refine own_go (XS.iload X30.here hx rfl (hb hby at_41) rfl (Steps.refl _)) ?_
  show own_Go p e below _ (T30.setTop (mkF m 43 #[.val (.int pr), .val (.int oct), .val (.int mr), .val (.int ls), .val (.int (Int32.ofNat n)), .val (.int pt), .val (.ref b29), .unset, .unset, .unset, .unset, .unset, .unset, .unset] [(.int pt), (.int (1 : Int32)), (.ref b29)]))
  refine own_go (XS.bipush X30.here hx rfl (hb hby at_43) (Steps.refl _)) ?_
  show own_Go p e below _ (T30.setTop (mkF m 45 #[.val (.int pr), .val (.int oct), .val (.int mr), .val (.int ls), .val (.int (Int32.ofNat n)), .val (.int pt), .val (.ref b29), .unset, .unset, .unset, .unset, .unset, .unset, .unset] [(.int (8 : Int32)), (.int pt), (.int (1 : Int32)), (.ref b29)]))
  refine own_go (XS.iushr X30.here hx rfl (hb hby at_45) rfl (Steps.refl _)) ?_
  show own_Go p e below _ (T30.setTop (mkF m 46 #[.val (.int pr), .val (.int oct), .val (.int mr), .val (.int ls), .val (.int (Int32.ofNat n)), .val (.int pt), .val (.ref b29), .unset, .unset, .unset, .unset, .unset, .unset, .unset] [(.int ((pt.toUInt32 >>> ((8 : Int32) &&& 31).toUInt32).toInt32)), (.int (1 : Int32)), (.ref b29)]))
  refine own_go (XS.sipush X30.here hx rfl (hb hby at_46) (Steps.refl _)) ?_
  show own_Go p e below _ (T30.setTop (mkF m 49 #[.val (.int pr), .val (.int oct), .val (.int mr), .val (.int ls), .val (.int (Int32.ofNat n)), .val (.int pt), .val (.ref b29), .unset, .unset, .unset, .unset, .unset, .unset, .unset] [(.int (255 : Int32)), (.int ((pt.toUInt32 >>> ((8 : Int32) &&& 31).toUInt32).toInt32)), (.int (1 : Int32)), (.ref b29)]))
  refine own_go (XS.iand X30.here hx rfl (hb hby at_49) rfl (Steps.refl _)) ?_
  show own_Go p e below _ (T30.setTop (mkF m 50 #[.val (.int pr), .val (.int oct), .val (.int mr), .val (.int ls), .val (.int (Int32.ofNat n)), .val (.int pt), .val (.ref b29), .unset, .unset, .unset, .unset, .unset, .unset, .unset] [(.int (((pt.toUInt32 >>> ((8 : Int32) &&& 31).toUInt32).toInt32) &&& (255 : Int32))), (.int (1 : Int32)), (.ref b29)]))
  obtain ⟨T31, h31, X31, e31, W31, V31', st31⟩ := own_stI X30 hx hZ e30 V30 (by decide) (by decide) (g := (mkF m 50 #[.val (.int pr), .val (.int oct), .val (.int mr), .val (.int ls), .val (.int (Int32.ofNat n)), .val (.int pt), .val (.ref b29), .unset, .unset, .unset, .unset, .unset, .unset, .unset] [(.int (((pt.toUInt32 >>> ((8 : Int32) &&& 31).toUInt32).toInt32) &&& (255 : Int32))), (.int (1 : Int32)), (.ref b29)])) rfl rfl (hb hby at_50) (i := 1) rfl (Nat.le_of_ble_eq_true rfl)
  have V31 : Arv Z h31 b29 c29 .int (4 : Int32) [(.int (pt &&& (255 : Int32))), (.int (((pt.toUInt32 >>> ((8 : Int32) &&& 31).toUInt32).toInt32) &&& (255 : Int32))), (.int (0 : Int32)), (.int (0 : Int32))] (.int (0 : Int32)) := V31'
  have N31 := Fr.snoc X31 N30 ge_b29
  have Zl31 : n0 ≤ h31.size := Nat.le_trans Zl30 (Keep.of_wr W31).1
  refine own_go st31 ?_
  show own_Go p e below _ (T31.setTop (mkF m 51 #[.val (.int pr), .val (.int oct), .val (.int mr), .val (.int ls), .val (.int (Int32.ofNat n)), .val (.int pt), .val (.ref b29), .unset, .unset, .unset, .unset, .unset, .unset, .unset] []))
  refine own_go (XS.aload X31.here hx rfl (hb hby at_51) rfl rfl (Steps.refl _)) ?_
  show own_Go p e below _ (T31.setTop (mkF m 53 #[.val (.int pr), .val (.int oct), .val (.int mr), .val (.int ls), .val (.int (Int32.ofNat n)), .val (.int pt), .val (.ref b29), .unset, .unset, .unset, .unset, .unset, .unset, .unset] [(.ref b29)]))
  refine own_go (XS.iconst X31.here hx rfl (hb hby at_53) (Steps.refl _)) ?_
  show own_Go p e below _ (T31.setTop (mkF m 54 #[.val (.int pr), .val (.int oct), .val (.int mr), .val (.int ls), .val (.int (Int32.ofNat n)), .val (.int pt), .val (.ref b29), .unset, .unset, .unset, .unset, .unset, .unset, .unset] [(.int (2 : Int32)), (.ref b29)]))
  refine own_go (XS.iload X31.here hx rfl (hb hby at_54) rfl (Steps.refl _)) ?_
  show own_Go p e below _ (T31.setTop (mkF m 56 #[.val (.int pr), .val (.int oct), .val (.int mr), .val (.int ls), .val (.int (Int32.ofNat n)), .val (.int pt), .val (.ref b29), .unset, .unset, .unset, .unset, .unset, .unset, .unset] [(.int pt), (.int (2 : Int32)), (.ref b29)]))
  refine own_go (XS.bipush X31.here hx rfl (hb hby at_56) (Steps.refl _)) ?_
  show own_Go p e below _ (T31.setTop (mkF m 58 #[.val (.int pr), .val (.int oct), .val (.int mr), .val (.int ls), .val (.int (Int32.ofNat n)), .val (.int pt), .val (.ref b29), .unset, .unset, .unset, .unset, .unset, .unset, .unset] [(.int (16 : Int32)), (.int pt), (.int (2 : Int32)), (.ref b29)]))
  refine own_go (XS.iushr X31.here hx rfl (hb hby at_58) rfl (Steps.refl _)) ?_
  show own_Go p e below _ (T31.setTop (mkF m 59 #[.val (.int pr), .val (.int oct), .val (.int mr), .val (.int ls), .val (.int (Int32.ofNat n)), .val (.int pt), .val (.ref b29), .unset, .unset, .unset, .unset, .unset, .unset, .unset] [(.int ((pt.toUInt32 >>> ((16 : Int32) &&& 31).toUInt32).toInt32)), (.int (2 : Int32)), (.ref b29)]))
  refine own_go (XS.sipush X31.here hx rfl (hb hby at_59) (Steps.refl _)) ?_
  show own_Go p e below _ (T31.setTop (mkF m 62 #[.val (.int pr), .val (.int oct), .val (.int mr), .val (.int ls), .val (.int (Int32.ofNat n)), .val (.int pt), .val (.ref b29), .unset, .unset, .unset, .unset, .unset, .unset, .unset] [(.int (255 : Int32)), (.int ((pt.toUInt32 >>> ((16 : Int32) &&& 31).toUInt32).toInt32)), (.int (2 : Int32)), (.ref b29)]))
  refine own_go (XS.iand X31.here hx rfl (hb hby at_62) rfl (Steps.refl _)) ?_
  show own_Go p e below _ (T31.setTop (mkF m 63 #[.val (.int pr), .val (.int oct), .val (.int mr), .val (.int ls), .val (.int (Int32.ofNat n)), .val (.int pt), .val (.ref b29), .unset, .unset, .unset, .unset, .unset, .unset, .unset] [(.int (((pt.toUInt32 >>> ((16 : Int32) &&& 31).toUInt32).toInt32) &&& (255 : Int32))), (.int (2 : Int32)), (.ref b29)]))
  obtain ⟨T32, h32, X32, e32, W32, V32', st32⟩ := own_stI X31 hx hZ e31 V31 (by decide) (by decide) (g := (mkF m 63 #[.val (.int pr), .val (.int oct), .val (.int mr), .val (.int ls), .val (.int (Int32.ofNat n)), .val (.int pt), .val (.ref b29), .unset, .unset, .unset, .unset, .unset, .unset, .unset] [(.int (((pt.toUInt32 >>> ((16 : Int32) &&& 31).toUInt32).toInt32) &&& (255 : Int32))), (.int (2 : Int32)), (.ref b29)])) rfl rfl (hb hby at_63) (i := 2) rfl (Nat.le_of_ble_eq_true rfl)
  have V32 : Arv Z h32 b29 c29 .int (4 : Int32) [(.int (pt &&& (255 : Int32))), (.int (((pt.toUInt32 >>> ((8 : Int32) &&& 31).toUInt32).toInt32) &&& (255 : Int32))), (.int (((pt.toUInt32 >>> ((16 : Int32) &&& 31).toUInt32).toInt32) &&& (255 : Int32))), (.int (0 : Int32))] (.int (0 : Int32)) := V32'
  have N32 := Fr.snoc X32 N31 ge_b29
  have Zl32 : n0 ≤ h32.size := Nat.le_trans Zl31 (Keep.of_wr W32).1
  refine own_go st32 ?_
  show own_Go p e below _ (T32.setTop (mkF m 64 #[.val (.int pr), .val (.int oct), .val (.int mr), .val (.int ls), .val (.int (Int32.ofNat n)), .val (.int pt), .val (.ref b29), .unset, .unset, .unset, .unset, .unset, .unset, .unset] []))
  refine own_go (XS.aload X32.here hx rfl (hb hby at_64) rfl rfl (Steps.refl _)) ?_
  show own_Go p e below _ (T32.setTop (mkF m 66 #[.val (.int pr), .val (.int oct), .val (.int mr), .val (.int ls), .val (.int (Int32.ofNat n)), .val (.int pt), .val (.ref b29), .unset, .unset, .unset, .unset, .unset, .unset, .unset] [(.ref b29)]))
  refine own_go (XS.iconst X32.here hx rfl (hb hby at_66) (Steps.refl _)) ?_
  show own_Go p e below _ (T32.setTop (mkF m 67 #[.val (.int pr), .val (.int oct), .val (.int mr), .val (.int ls), .val (.int (Int32.ofNat n)), .val (.int pt), .val (.ref b29), .unset, .unset, .unset, .unset, .unset, .unset, .unset] [(.int (3 : Int32)), (.ref b29)]))
  refine own_go (XS.iload X32.here hx rfl (hb hby at_67) rfl (Steps.refl _)) ?_
  show own_Go p e below _ (T32.setTop (mkF m 69 #[.val (.int pr), .val (.int oct), .val (.int mr), .val (.int ls), .val (.int (Int32.ofNat n)), .val (.int pt), .val (.ref b29), .unset, .unset, .unset, .unset, .unset, .unset, .unset] [(.int pt), (.int (3 : Int32)), (.ref b29)]))
  refine own_go (XS.bipush X32.here hx rfl (hb hby at_69) (Steps.refl _)) ?_
  show own_Go p e below _ (T32.setTop (mkF m 71 #[.val (.int pr), .val (.int oct), .val (.int mr), .val (.int ls), .val (.int (Int32.ofNat n)), .val (.int pt), .val (.ref b29), .unset, .unset, .unset, .unset, .unset, .unset, .unset] [(.int (24 : Int32)), (.int pt), (.int (3 : Int32)), (.ref b29)]))
  refine own_go (XS.iushr X32.here hx rfl (hb hby at_71) rfl (Steps.refl _)) ?_
  show own_Go p e below _ (T32.setTop (mkF m 72 #[.val (.int pr), .val (.int oct), .val (.int mr), .val (.int ls), .val (.int (Int32.ofNat n)), .val (.int pt), .val (.ref b29), .unset, .unset, .unset, .unset, .unset, .unset, .unset] [(.int ((pt.toUInt32 >>> ((24 : Int32) &&& 31).toUInt32).toInt32)), (.int (3 : Int32)), (.ref b29)]))
  refine own_go (XS.sipush X32.here hx rfl (hb hby at_72) (Steps.refl _)) ?_
  show own_Go p e below _ (T32.setTop (mkF m 75 #[.val (.int pr), .val (.int oct), .val (.int mr), .val (.int ls), .val (.int (Int32.ofNat n)), .val (.int pt), .val (.ref b29), .unset, .unset, .unset, .unset, .unset, .unset, .unset] [(.int (255 : Int32)), (.int ((pt.toUInt32 >>> ((24 : Int32) &&& 31).toUInt32).toInt32)), (.int (3 : Int32)), (.ref b29)]))
  refine own_go (XS.iand X32.here hx rfl (hb hby at_75) rfl (Steps.refl _)) ?_
  show own_Go p e below _ (T32.setTop (mkF m 76 #[.val (.int pr), .val (.int oct), .val (.int mr), .val (.int ls), .val (.int (Int32.ofNat n)), .val (.int pt), .val (.ref b29), .unset, .unset, .unset, .unset, .unset, .unset, .unset] [(.int (((pt.toUInt32 >>> ((24 : Int32) &&& 31).toUInt32).toInt32) &&& (255 : Int32))), (.int (3 : Int32)), (.ref b29)]))
  obtain ⟨T33, h33, X33, e33, W33, V33', st33⟩ := own_stI X32 hx hZ e32 V32 (by decide) (by decide) (g := (mkF m 76 #[.val (.int pr), .val (.int oct), .val (.int mr), .val (.int ls), .val (.int (Int32.ofNat n)), .val (.int pt), .val (.ref b29), .unset, .unset, .unset, .unset, .unset, .unset, .unset] [(.int (((pt.toUInt32 >>> ((24 : Int32) &&& 31).toUInt32).toInt32) &&& (255 : Int32))), (.int (3 : Int32)), (.ref b29)])) rfl rfl (hb hby at_76) (i := 3) rfl (Nat.le_of_ble_eq_true rfl)
  have V33 : Arv Z h33 b29 c29 .int (4 : Int32) [(.int (pt &&& (255 : Int32))), (.int (((pt.toUInt32 >>> ((8 : Int32) &&& 31).toUInt32).toInt32) &&& (255 : Int32))), (.int (((pt.toUInt32 >>> ((16 : Int32) &&& 31).toUInt32).toInt32) &&& (255 : Int32))), (.int (((pt.toUInt32 >>> ((24 : Int32) &&& 31).toUInt32).toInt32) &&& (255 : Int32)))] (.int (0 : Int32)) := V33'
  have N33 := Fr.snoc X33 N32 ge_b29
  have Zl33 : n0 ≤ h33.size := Nat.le_trans Zl32 (Keep.of_wr W33).1
  refine own_go st33 ?_
  show own_Go p e below _ (T33.setTop (mkF m 77 #[.val (.int pr), .val (.int oct), .val (.int mr), .val (.int ls), .val (.int (Int32.ofNat n)), .val (.int pt), .val (.ref b29), .unset, .unset, .unset, .unset, .unset, .unset, .unset] []))
  obtain ⟨P, hP⟩ : ∃ P : Nat → Int32, P = own_P pt := ⟨_, rfl⟩
  have VP : Arv Z h33 b29 c29 .int (4 : Int32) (own_vN P 4) (.int (0 : Int32)) := by rw [hP]; exact V33
  show own_Go p e below _ (T33.setTop (mkF m 77 #[.val (.int pr), .val (.int oct), .val (.int mr), .val (.int ls), .val (.int (Int32.ofNat n)), .val (.int pt), .val (.ref b29), .unset, .unset, .unset, .unset, .unset, .unset, .unset] []))
  refine own_go (XS.iloadN X33.here hx rfl (hb hby at_77) rfl (Steps.refl _)) ?_
  show own_Go p e below _ (T33.setTop (mkF m 78 #[.val (.int pr), .val (.int oct), .val (.int mr), .val (.int ls), .val (.int (Int32.ofNat n)), .val (.int pt), .val (.ref b29), .unset, .unset, .unset, .unset, .unset, .unset, .unset] [(.int mr)]))
  refine own_go (X33.ldcInt hx hown (mvT hZ (hw _ (List.mem_of_getElem? (i := 1) rfl))) (g := (mkF m 78 #[.val (.int pr), .val (.int oct), .val (.int mr), .val (.int ls), .val (.int (Int32.ofNat n)), .val (.int pt), .val (.ref b29), .unset, .unset, .unset, .unset, .unset, .unset, .unset] [(.int mr)])) rfl (hb hby at_78) _ (Steps.refl _)) ?_
  show own_Go p e below _ (T33.setTop (mkF m 80 #[.val (.int pr), .val (.int oct), .val (.int mr), .val (.int ls), .val (.int (Int32.ofNat n)), .val (.int pt), .val (.ref b29), .unset, .unset, .unset, .unset, .unset, .unset, .unset] [(.int (2147483647 : Int32)), (.int mr)]))
  refine own_go (XS.iand X33.here hx rfl (hb hby at_80) rfl (Steps.refl _)) ?_
  show own_Go p e below _ (T33.setTop (mkF m 81 #[.val (.int pr), .val (.int oct), .val (.int mr), .val (.int ls), .val (.int (Int32.ofNat n)), .val (.int pt), .val (.ref b29), .unset, .unset, .unset, .unset, .unset, .unset, .unset] [(.int (mr &&& (2147483647 : Int32)))]))
  refine own_go (XS.iload X33.here hx rfl (hb hby at_81) rfl (Steps.refl _)) ?_
  show own_Go p e below _ (T33.setTop (mkF m 83 #[.val (.int pr), .val (.int oct), .val (.int mr), .val (.int ls), .val (.int (Int32.ofNat n)), .val (.int pt), .val (.ref b29), .unset, .unset, .unset, .unset, .unset, .unset, .unset] [(.int (Int32.ofNat n)), (.int (mr &&& (2147483647 : Int32)))]))
  refine own_go (XS.iconst X33.here hx rfl (hb hby at_83) (Steps.refl _)) ?_
  show own_Go p e below _ (T33.setTop (mkF m 84 #[.val (.int pr), .val (.int oct), .val (.int mr), .val (.int ls), .val (.int (Int32.ofNat n)), .val (.int pt), .val (.ref b29), .unset, .unset, .unset, .unset, .unset, .unset, .unset] [(.int (1 : Int32)), (.int (Int32.ofNat n)), (.int (mr &&& (2147483647 : Int32)))]))
  refine own_go (XS.iadd X33.here hx rfl (hb hby at_84) rfl (Steps.refl _)) ?_
  show own_Go p e below _ (T33.setTop (mkF m 85 #[.val (.int pr), .val (.int oct), .val (.int mr), .val (.int ls), .val (.int (Int32.ofNat n)), .val (.int pt), .val (.ref b29), .unset, .unset, .unset, .unset, .unset, .unset, .unset] [(.int ((Int32.ofNat n) + (1 : Int32))), (.int (mr &&& (2147483647 : Int32)))]))
  rw [own_n1]
  show own_Go p e below _ (T33.setTop (mkF m 85 #[.val (.int pr), .val (.int oct), .val (.int mr), .val (.int ls), .val (.int (Int32.ofNat n)), .val (.int pt), .val (.ref b29), .unset, .unset, .unset, .unset, .unset, .unset, .unset] [(.int (Int32.ofNat (n + 1))), (.int (mr &&& (2147483647 : Int32)))]))
  have nz1 : ¬ Int32.ofNat (n + 1) = (0 : Int32) := own_nz (by omega) (by omega)
  refine own_go (iremM X33 hx rfl (hb hby at_85) rfl nz1 (Steps.refl _)) ?_
  show own_Go p e below _ (T33.setTop (mkF m 86 #[.val (.int pr), .val (.int oct), .val (.int mr), .val (.int ls), .val (.int (Int32.ofNat n)), .val (.int pt), .val (.ref b29), .unset, .unset, .unset, .unset, .unset, .unset, .unset] [(.int ((mr &&& (2147483647 : Int32)) % (Int32.ofNat (n + 1))))]))
  obtain ⟨mN, hm, em⟩ := own_split (mr &&& (2147483647 : Int32)) (Int32.ofNat (n + 1)) (n + 1) (by omega) (by omega) (own_m31 _) rfl
  rw [em]
  show own_Go p e below _ (T33.setTop (mkF m 86 #[.val (.int pr), .val (.int oct), .val (.int mr), .val (.int ls), .val (.int (Int32.ofNat n)), .val (.int pt), .val (.ref b29), .unset, .unset, .unset, .unset, .unset, .unset, .unset] [(.int (Int32.ofNat mN))]))
  refine own_go (XS.istore X33.here hx rfl (hb hby at_86) rfl (l' := #[.val (.int pr), .val (.int oct), .val (.int mr), .val (.int ls), .val (.int (Int32.ofNat n)), .val (.int pt), .val (.ref b29), .val (.int (Int32.ofNat mN)), .unset, .unset, .unset, .unset, .unset, .unset]) rfl (Steps.refl _)) ?_
  show own_Go p e below _ (T33.setTop (mkF m 88 #[.val (.int pr), .val (.int oct), .val (.int mr), .val (.int ls), .val (.int (Int32.ofNat n)), .val (.int pt), .val (.ref b29), .val (.int (Int32.ofNat mN)), .unset, .unset, .unset, .unset, .unset, .unset] []))
  refine own_go (XS.iloadN X33.here hx rfl (hb hby at_88) rfl (Steps.refl _)) ?_
  show own_Go p e below _ (T33.setTop (mkF m 89 #[.val (.int pr), .val (.int oct), .val (.int mr), .val (.int ls), .val (.int (Int32.ofNat n)), .val (.int pt), .val (.ref b29), .val (.int (Int32.ofNat mN)), .unset, .unset, .unset, .unset, .unset, .unset] [(.int oct)]))
  refine own_go (XS.bipush X33.here hx rfl (hb hby at_89) (Steps.refl _)) ?_
  show own_Go p e below _ (T33.setTop (mkF m 91 #[.val (.int pr), .val (.int oct), .val (.int mr), .val (.int ls), .val (.int (Int32.ofNat n)), .val (.int pt), .val (.ref b29), .val (.int (Int32.ofNat mN)), .unset, .unset, .unset, .unset, .unset, .unset] [(.int (8 : Int32)), (.int oct)]))
  refine own_go (XS.iushr X33.here hx rfl (hb hby at_91) rfl (Steps.refl _)) ?_
  show own_Go p e below _ (T33.setTop (mkF m 92 #[.val (.int pr), .val (.int oct), .val (.int mr), .val (.int ls), .val (.int (Int32.ofNat n)), .val (.int pt), .val (.ref b29), .val (.int (Int32.ofNat mN)), .unset, .unset, .unset, .unset, .unset, .unset] [(.int ((oct.toUInt32 >>> ((8 : Int32) &&& 31).toUInt32).toInt32))]))
  refine own_go (XS.iconst X33.here hx rfl (hb hby at_92) (Steps.refl _)) ?_
  show own_Go p e below _ (T33.setTop (mkF m 93 #[.val (.int pr), .val (.int oct), .val (.int mr), .val (.int ls), .val (.int (Int32.ofNat n)), .val (.int pt), .val (.ref b29), .val (.int (Int32.ofNat mN)), .unset, .unset, .unset, .unset, .unset, .unset] [(.int (1 : Int32)), (.int ((oct.toUInt32 >>> ((8 : Int32) &&& 31).toUInt32).toInt32))]))
  refine own_go (XS.iand X33.here hx rfl (hb hby at_93) rfl (Steps.refl _)) ?_
  show own_Go p e below _ (T33.setTop (mkF m 94 #[.val (.int pr), .val (.int oct), .val (.int mr), .val (.int ls), .val (.int (Int32.ofNat n)), .val (.int pt), .val (.ref b29), .val (.int (Int32.ofNat mN)), .unset, .unset, .unset, .unset, .unset, .unset] [(.int (((oct.toUInt32 >>> ((8 : Int32) &&& 31).toUInt32).toInt32) &&& (1 : Int32)))]))
  suffices J2 : ∀ oc : Int32, True → own_Go p e below (own_G s (fun v h L => v = some (.int 1) ∧ Fr n0 L) room_1.cells room_1.slots) (T33.setTop (mkF m 114 #[.val (.int pr), .val (.int oct), .val (.int mr), .val (.int ls), .val (.int (Int32.ofNat n)), .val (.int pt), .val (.ref b29), .val (.int (Int32.ofNat mN)), .unset, .unset, .unset, .unset, .unset, .unset] [(.int oc)])) by
    by_cases hc : (((oct.toUInt32 >>> ((8 : Int32) &&& 31).toUInt32).toInt32) &&& (1 : Int32)) = (0 : Int32)
    · refine own_go (XS.ifNo X33.here hx rfl (hb hby at_94) rfl ((if0 _ _).trans (teq hc).2) (Steps.refl _)) ?_
      show own_Go p e below _ (T33.setTop (mkF m 97 #[.val (.int pr), .val (.int oct), .val (.int mr), .val (.int ls), .val (.int (Int32.ofNat n)), .val (.int pt), .val (.ref b29), .val (.int (Int32.ofNat mN)), .unset, .unset, .unset, .unset, .unset, .unset] []))
      refine own_go (XS.iloadN X33.here hx rfl (hb hby at_97) rfl (Steps.refl _)) ?_
      show own_Go p e below _ (T33.setTop (mkF m 98 #[.val (.int pr), .val (.int oct), .val (.int mr), .val (.int ls), .val (.int (Int32.ofNat n)), .val (.int pt), .val (.ref b29), .val (.int (Int32.ofNat mN)), .unset, .unset, .unset, .unset, .unset, .unset] [(.int oct)]))
      refine own_go (XS.sipush X33.here hx rfl (hb hby at_98) (Steps.refl _)) ?_
      show own_Go p e below _ (T33.setTop (mkF m 101 #[.val (.int pr), .val (.int oct), .val (.int mr), .val (.int ls), .val (.int (Int32.ofNat n)), .val (.int pt), .val (.ref b29), .val (.int (Int32.ofNat mN)), .unset, .unset, .unset, .unset, .unset, .unset] [(.int (255 : Int32)), (.int oct)]))
      refine own_go (XS.iand X33.here hx rfl (hb hby at_101) rfl (Steps.refl _)) ?_
      show own_Go p e below _ (T33.setTop (mkF m 102 #[.val (.int pr), .val (.int oct), .val (.int mr), .val (.int ls), .val (.int (Int32.ofNat n)), .val (.int pt), .val (.ref b29), .val (.int (Int32.ofNat mN)), .unset, .unset, .unset, .unset, .unset, .unset] [(.int (oct &&& (255 : Int32)))]))
      refine own_go (XS.goto X33.here hx rfl (pc0 := 102) (pc' := 114) rfl (hb hby at_102) (by decide) (by decide) (Steps.refl _)) ?_
      show own_Go p e below _ (T33.setTop (mkF m 114 #[.val (.int pr), .val (.int oct), .val (.int mr), .val (.int ls), .val (.int (Int32.ofNat n)), .val (.int pt), .val (.ref b29), .val (.int (Int32.ofNat mN)), .unset, .unset, .unset, .unset, .unset, .unset] [(.int (oct &&& (255 : Int32)))]))
      exact J2 _ trivial
    · refine own_go (XS.ifYes X33.here hx rfl (pc0 := 94) (pc' := 105) rfl (hb hby at_94) rfl ((if0 _ _).trans (feq hc).2) (by decide) (by decide) (Steps.refl _)) ?_
      show own_Go p e below _ (T33.setTop (mkF m 105 #[.val (.int pr), .val (.int oct), .val (.int mr), .val (.int ls), .val (.int (Int32.ofNat n)), .val (.int pt), .val (.ref b29), .val (.int (Int32.ofNat mN)), .unset, .unset, .unset, .unset, .unset, .unset] []))
      refine own_go (XS.aload X33.here hx rfl (hb hby at_105) rfl rfl (Steps.refl _)) ?_
      show own_Go p e below _ (T33.setTop (mkF m 107 #[.val (.int pr), .val (.int oct), .val (.int mr), .val (.int ls), .val (.int (Int32.ofNat n)), .val (.int pt), .val (.ref b29), .val (.int (Int32.ofNat mN)), .unset, .unset, .unset, .unset, .unset, .unset] [(.ref b29)]))
      refine own_go (XS.iloadN X33.here hx rfl (hb hby at_107) rfl (Steps.refl _)) ?_
      show own_Go p e below _ (T33.setTop (mkF m 108 #[.val (.int pr), .val (.int oct), .val (.int mr), .val (.int ls), .val (.int (Int32.ofNat n)), .val (.int pt), .val (.ref b29), .val (.int (Int32.ofNat mN)), .unset, .unset, .unset, .unset, .unset, .unset] [(.int oct), (.ref b29)]))
      refine own_go (XS.bipush X33.here hx rfl (hb hby at_108) (Steps.refl _)) ?_
      show own_Go p e below _ (T33.setTop (mkF m 110 #[.val (.int pr), .val (.int oct), .val (.int mr), .val (.int ls), .val (.int (Int32.ofNat n)), .val (.int pt), .val (.ref b29), .val (.int (Int32.ofNat mN)), .unset, .unset, .unset, .unset, .unset, .unset] [(.int (9 : Int32)), (.int oct), (.ref b29)]))
      refine own_go (XS.iushr X33.here hx rfl (hb hby at_110) rfl (Steps.refl _)) ?_
      show own_Go p e below _ (T33.setTop (mkF m 111 #[.val (.int pr), .val (.int oct), .val (.int mr), .val (.int ls), .val (.int (Int32.ofNat n)), .val (.int pt), .val (.ref b29), .val (.int (Int32.ofNat mN)), .unset, .unset, .unset, .unset, .unset, .unset] [(.int ((oct.toUInt32 >>> ((9 : Int32) &&& 31).toUInt32).toInt32)), (.ref b29)]))
      refine own_go (XS.iconst X33.here hx rfl (hb hby at_111) (Steps.refl _)) ?_
      show own_Go p e below _ (T33.setTop (mkF m 112 #[.val (.int pr), .val (.int oct), .val (.int mr), .val (.int ls), .val (.int (Int32.ofNat n)), .val (.int pt), .val (.ref b29), .val (.int (Int32.ofNat mN)), .unset, .unset, .unset, .unset, .unset, .unset] [(.int (3 : Int32)), (.int ((oct.toUInt32 >>> ((9 : Int32) &&& 31).toUInt32).toInt32)), (.ref b29)]))
      refine own_go (XS.iand X33.here hx rfl (hb hby at_112) rfl (Steps.refl _)) ?_
      show own_Go p e below _ (T33.setTop (mkF m 113 #[.val (.int pr), .val (.int oct), .val (.int mr), .val (.int ls), .val (.int (Int32.ofNat n)), .val (.int pt), .val (.ref b29), .val (.int (Int32.ofNat mN)), .unset, .unset, .unset, .unset, .unset, .unset] [(.int (((oct.toUInt32 >>> ((9 : Int32) &&& 31).toUInt32).toInt32) &&& (3 : Int32))), (.ref b29)]))
      obtain ⟨jx, hjx, ejx⟩ := own_small ((oct.toUInt32 >>> ((9 : Int32) &&& 31).toUInt32).toInt32) 3 2 (by decide) (by decide)
      rw [ejx]
      show own_Go p e below _ (T33.setTop (mkF m 113 #[.val (.int pr), .val (.int oct), .val (.int mr), .val (.int ls), .val (.int (Int32.ofNat n)), .val (.int pt), .val (.ref b29), .val (.int (Int32.ofNat mN)), .unset, .unset, .unset, .unset, .unset, .unset] [(.int (Int32.ofNat jx)), (.ref b29)]))
      refine own_go (own_ldI X33 hx hZ e33 VP (own_i0 (by omega)) ((own_ltN (j := 4) (by omega) (by omega)).mpr (by omega)) (v := (P jx)) (own_getN P (n := 4) (by omega) (by omega)) (g := (mkF m 113 #[.val (.int pr), .val (.int oct), .val (.int mr), .val (.int ls), .val (.int (Int32.ofNat n)), .val (.int pt), .val (.ref b29), .val (.int (Int32.ofNat mN)), .unset, .unset, .unset, .unset, .unset, .unset] [(.int (Int32.ofNat jx)), (.ref b29)])) rfl rfl (hb hby at_113)) ?_
      show own_Go p e below _ (T33.setTop (mkF m 114 #[.val (.int pr), .val (.int oct), .val (.int mr), .val (.int ls), .val (.int (Int32.ofNat n)), .val (.int pt), .val (.ref b29), .val (.int (Int32.ofNat mN)), .unset, .unset, .unset, .unset, .unset, .unset] [(.int (P jx))]))
      exact J2 _ trivial
  intro oc _
  show own_Go p e below _ (T33.setTop (mkF m 114 #[.val (.int pr), .val (.int oct), .val (.int mr), .val (.int ls), .val (.int (Int32.ofNat n)), .val (.int pt), .val (.ref b29), .val (.int (Int32.ofNat mN)), .unset, .unset, .unset, .unset, .unset, .unset] [(.int oc)]))
  refine own_go (XS.istore X33.here hx rfl (hb hby at_114) rfl (l' := #[.val (.int pr), .val (.int oct), .val (.int mr), .val (.int ls), .val (.int (Int32.ofNat n)), .val (.int pt), .val (.ref b29), .val (.int (Int32.ofNat mN)), .val (.int oc), .unset, .unset, .unset, .unset, .unset]) rfl (Steps.refl _)) ?_
  show own_Go p e below _ (T33.setTop (mkF m 116 #[.val (.int pr), .val (.int oct), .val (.int mr), .val (.int ls), .val (.int (Int32.ofNat n)), .val (.int pt), .val (.ref b29), .val (.int (Int32.ofNat mN)), .val (.int oc), .unset, .unset, .unset, .unset, .unset] []))
  refine own_go (XS.iconst X33.here hx rfl (hb hby at_116) (Steps.refl _)) ?_
  show own_Go p e below _ (T33.setTop (mkF m 117 #[.val (.int pr), .val (.int oct), .val (.int mr), .val (.int ls), .val (.int (Int32.ofNat n)), .val (.int pt), .val (.ref b29), .val (.int (Int32.ofNat mN)), .val (.int oc), .unset, .unset, .unset, .unset, .unset] [(.int (5 : Int32))]))
  obtain ⟨T34, h34, c34, b34, g34, X34, e34, E34, V34', st34⟩ := own_newP X33 hx hZ (hw _ (List.mem_of_getElem? (i := 0) rfl)) e33 (g := (mkF m 117 #[.val (.int pr), .val (.int oct), .val (.int mr), .val (.int ls), .val (.int (Int32.ofNat n)), .val (.int pt), .val (.ref b29), .val (.int (Int32.ofNat mN)), .val (.int oc), .unset, .unset, .unset, .unset, .unset] [(.int (5 : Int32))])) rfl (hb hby at_117) rfl (by decide) (cap := 5) (by decide) (by decide) (by decide) (by decide)
  have V34 : Arv Z h34 b34 c34 .int (5 : Int32) [(.int (0 : Int32)), (.int (0 : Int32)), (.int (0 : Int32)), (.int (0 : Int32)), (.int (0 : Int32))] (.int (0 : Int32)) := V34'
  have ne_b29_b34 : b29 ≠ b34 := own_born VP.lt g34
  have ge_b34 : n0 ≤ b34 := Nat.le_trans Zl33 (Nat.le_of_eq g34.symm)
  have Zl34 : n0 ≤ h34.size := Nat.le_trans Zl33 E34.1
  refine own_go st34 ?_
  show own_Go p e below _ (T34.setTop (mkF m 119 #[.val (.int pr), .val (.int oct), .val (.int mr), .val (.int ls), .val (.int (Int32.ofNat n)), .val (.int pt), .val (.ref b29), .val (.int (Int32.ofNat mN)), .val (.int oc), .unset, .unset, .unset, .unset, .unset] [(.ref b34)]))
  refine own_go (XS.astore X34.here hx rfl (hb hby at_119) rfl rfl (l' := #[.val (.int pr), .val (.int oct), .val (.int mr), .val (.int ls), .val (.int (Int32.ofNat n)), .val (.int pt), .val (.ref b29), .val (.int (Int32.ofNat mN)), .val (.int oc), .val (.ref b34), .unset, .unset, .unset, .unset]) rfl (Steps.refl _)) ?_
  show own_Go p e below _ (T34.setTop (mkF m 121 #[.val (.int pr), .val (.int oct), .val (.int mr), .val (.int ls), .val (.int (Int32.ofNat n)), .val (.int pt), .val (.ref b29), .val (.int (Int32.ofNat mN)), .val (.int oc), .val (.ref b34), .unset, .unset, .unset, .unset] []))
  refine own_go (XS.aload X34.here hx rfl (hb hby at_121) rfl rfl (Steps.refl _)) ?_
  show own_Go p e below _ (T34.setTop (mkF m 123 #[.val (.int pr), .val (.int oct), .val (.int mr), .val (.int ls), .val (.int (Int32.ofNat n)), .val (.int pt), .val (.ref b29), .val (.int (Int32.ofNat mN)), .val (.int oc), .val (.ref b34), .unset, .unset, .unset, .unset] [(.ref b34)]))
  refine own_go (XS.iconst X34.here hx rfl (hb hby at_123) (Steps.refl _)) ?_
  show own_Go p e below _ (T34.setTop (mkF m 124 #[.val (.int pr), .val (.int oct), .val (.int mr), .val (.int ls), .val (.int (Int32.ofNat n)), .val (.int pt), .val (.ref b29), .val (.int (Int32.ofNat mN)), .val (.int oc), .val (.ref b34), .unset, .unset, .unset, .unset] [(.int (0 : Int32)), (.ref b34)]))
  refine own_go (XS.aload X34.here hx rfl (hb hby at_124) rfl rfl (Steps.refl _)) ?_
  show own_Go p e below _ (T34.setTop (mkF m 126 #[.val (.int pr), .val (.int oct), .val (.int mr), .val (.int ls), .val (.int (Int32.ofNat n)), .val (.int pt), .val (.ref b29), .val (.int (Int32.ofNat mN)), .val (.int oc), .val (.ref b34), .unset, .unset, .unset, .unset] [(.ref b29), (.int (0 : Int32)), (.ref b34)]))
  refine own_go (XS.iconst X34.here hx rfl (hb hby at_126) (Steps.refl _)) ?_
  show own_Go p e below _ (T34.setTop (mkF m 127 #[.val (.int pr), .val (.int oct), .val (.int mr), .val (.int ls), .val (.int (Int32.ofNat n)), .val (.int pt), .val (.ref b29), .val (.int (Int32.ofNat mN)), .val (.int oc), .val (.ref b34), .unset, .unset, .unset, .unset] [(.int (0 : Int32)), (.ref b29), (.int (0 : Int32)), (.ref b34)]))
  refine own_go (XS.iload X34.here hx rfl (hb hby at_127) rfl (Steps.refl _)) ?_
  show own_Go p e below _ (T34.setTop (mkF m 129 #[.val (.int pr), .val (.int oct), .val (.int mr), .val (.int ls), .val (.int (Int32.ofNat n)), .val (.int pt), .val (.ref b29), .val (.int (Int32.ofNat mN)), .val (.int oc), .val (.ref b34), .unset, .unset, .unset, .unset] [(.int (Int32.ofNat mN)), (.int (0 : Int32)), (.ref b29), (.int (0 : Int32)), (.ref b34)]))
  refine own_go (XS.iload X34.here hx rfl (hb hby at_129) rfl (Steps.refl _)) ?_
  show own_Go p e below _ (T34.setTop (mkF m 131 #[.val (.int pr), .val (.int oct), .val (.int mr), .val (.int ls), .val (.int (Int32.ofNat n)), .val (.int pt), .val (.ref b29), .val (.int (Int32.ofNat mN)), .val (.int oc), .val (.ref b34), .unset, .unset, .unset, .unset] [(.int oc), (.int (Int32.ofNat mN)), (.int (0 : Int32)), (.ref b29), (.int (0 : Int32)), (.ref b34)]))
  obtain ⟨_, _, ⟨T35, L35, k35, n35⟩, -, X35, ⟨Lc35, hQ35, l35, y35, z35⟩, st35⟩ := Jvm.LawKit.callS X34 hx (y := (⟨"com/example/crossweave/crossweave/soap/OctetPatternNextPinLaw", "cell", "([IIII)I"⟩ : MethodName)) hown (mvT hZ (hw _ (List.mem_of_getElem? (i := 2) rfl))) (mvT hZ (hw _ (List.mem_of_getElem? (i := 3) rfl))) (mvT hZ (hw _ (List.mem_of_getElem? (i := 4) rfl))) (mvT hZ (hw _ (List.mem_of_getElem? (i := 5) rfl))) (by decide) (own_pays (W := 2) (rm_cell l Z a0 hw b29 c29 P 0 mN oc h34 n0 Zl34 (by omega) (by omega) (VP.ext E34)) hZ (hw _ (List.mem_of_getElem? (i := 5) rfl)) (hw _ (List.mem_of_getElem? (i := 4) rfl)) (by decide) (by decide)) (g := (mkF m 131 #[.val (.int pr), .val (.int oct), .val (.int mr), .val (.int ls), .val (.int (Int32.ofNat n)), .val (.int pt), .val (.ref b29), .val (.int (Int32.ofNat mN)), .val (.int oc), .val (.ref b34), .unset, .unset, .unset, .unset] [(.int oc), (.int (Int32.ofNat mN)), (.int (0 : Int32)), (.ref b29), (.int (0 : Int32)), (.ref b34)])) rfl (by rw [hml]; rfl) (argsL := [(.ref b29), (.int (0 : Int32)), (.int (Int32.ofNat mN)), (.int oc)]) (rest := [(.int (0 : Int32)), (.ref b34)]) (lenOf own_f14 rfl) rfl (by show 2 * 0 + _ ≤ _; exact Nat.le_of_eq rfl) (hb hby at_131) (fun _ _ => ⟨rfl, e34, (by decide : 2 + 0 ≤ _), (by decide : 9 + 0 ≤ _)⟩)
  dsimp only [Pt.U, Pt.locs, Pt.cells, Pt.slots] at X35 l35 y35 z35 st35 hQ35
  subst l35 y35 z35
  obtain ⟨rfl, rfl, e35⟩ := hQ35
  try rw [List.append_nil] at X35
  refine own_go (st35 _ (Steps.refl _)) ?_
  show own_Go p e below _ (T35.setTop (mkF m 134 #[.val (.int pr), .val (.int oct), .val (.int mr), .val (.int ls), .val (.int (Int32.ofNat n)), .val (.int pt), .val (.ref b29), .val (.int (Int32.ofNat mN)), .val (.int oc), .val (.ref b34), .unset, .unset, .unset, .unset] [(.int (own_cell P 0 mN oc)), (.int (0 : Int32)), (.ref b34)]))
  obtain ⟨T36, h36, X36, e36, W36, V36', st36⟩ := own_stI X35 hx hZ e35 V34 (by decide) (by decide) (g := (mkF m 134 #[.val (.int pr), .val (.int oct), .val (.int mr), .val (.int ls), .val (.int (Int32.ofNat n)), .val (.int pt), .val (.ref b29), .val (.int (Int32.ofNat mN)), .val (.int oc), .val (.ref b34), .unset, .unset, .unset, .unset] [(.int (own_cell P 0 mN oc)), (.int (0 : Int32)), (.ref b34)])) rfl rfl (hb hby at_134) (i := 0) rfl (Nat.le_of_ble_eq_true rfl)
  have V36 : Arv Z h36 b34 c34 .int (5 : Int32) [(.int (own_cell P 0 mN oc)), (.int (0 : Int32)), (.int (0 : Int32)), (.int (0 : Int32)), (.int (0 : Int32))] (.int (0 : Int32)) := V36'
  have N36 := Fr.snoc X36 N33 ge_b34
  have Zl36 : n0 ≤ h36.size := Nat.le_trans Zl34 (Keep.of_wr W36).1
  refine own_go st36 ?_
  show own_Go p e below _ (T36.setTop (mkF m 135 #[.val (.int pr), .val (.int oct), .val (.int mr), .val (.int ls), .val (.int (Int32.ofNat n)), .val (.int pt), .val (.ref b29), .val (.int (Int32.ofNat mN)), .val (.int oc), .val (.ref b34), .unset, .unset, .unset, .unset] []))
  refine own_go (XS.aload X36.here hx rfl (hb hby at_135) rfl rfl (Steps.refl _)) ?_
  show own_Go p e below _ (T36.setTop (mkF m 137 #[.val (.int pr), .val (.int oct), .val (.int mr), .val (.int ls), .val (.int (Int32.ofNat n)), .val (.int pt), .val (.ref b29), .val (.int (Int32.ofNat mN)), .val (.int oc), .val (.ref b34), .unset, .unset, .unset, .unset] [(.ref b34)]))
  refine own_go (XS.iconst X36.here hx rfl (hb hby at_137) (Steps.refl _)) ?_
  show own_Go p e below _ (T36.setTop (mkF m 138 #[.val (.int pr), .val (.int oct), .val (.int mr), .val (.int ls), .val (.int (Int32.ofNat n)), .val (.int pt), .val (.ref b29), .val (.int (Int32.ofNat mN)), .val (.int oc), .val (.ref b34), .unset, .unset, .unset, .unset] [(.int (1 : Int32)), (.ref b34)]))
  refine own_go (XS.aload X36.here hx rfl (hb hby at_138) rfl rfl (Steps.refl _)) ?_
  show own_Go p e below _ (T36.setTop (mkF m 140 #[.val (.int pr), .val (.int oct), .val (.int mr), .val (.int ls), .val (.int (Int32.ofNat n)), .val (.int pt), .val (.ref b29), .val (.int (Int32.ofNat mN)), .val (.int oc), .val (.ref b34), .unset, .unset, .unset, .unset] [(.ref b29), (.int (1 : Int32)), (.ref b34)]))
  refine own_go (XS.iconst X36.here hx rfl (hb hby at_140) (Steps.refl _)) ?_
  show own_Go p e below _ (T36.setTop (mkF m 141 #[.val (.int pr), .val (.int oct), .val (.int mr), .val (.int ls), .val (.int (Int32.ofNat n)), .val (.int pt), .val (.ref b29), .val (.int (Int32.ofNat mN)), .val (.int oc), .val (.ref b34), .unset, .unset, .unset, .unset] [(.int (1 : Int32)), (.ref b29), (.int (1 : Int32)), (.ref b34)]))
  refine own_go (XS.iload X36.here hx rfl (hb hby at_141) rfl (Steps.refl _)) ?_
  show own_Go p e below _ (T36.setTop (mkF m 143 #[.val (.int pr), .val (.int oct), .val (.int mr), .val (.int ls), .val (.int (Int32.ofNat n)), .val (.int pt), .val (.ref b29), .val (.int (Int32.ofNat mN)), .val (.int oc), .val (.ref b34), .unset, .unset, .unset, .unset] [(.int (Int32.ofNat mN)), (.int (1 : Int32)), (.ref b29), (.int (1 : Int32)), (.ref b34)]))
  refine own_go (XS.iload X36.here hx rfl (hb hby at_143) rfl (Steps.refl _)) ?_
  show own_Go p e below _ (T36.setTop (mkF m 145 #[.val (.int pr), .val (.int oct), .val (.int mr), .val (.int ls), .val (.int (Int32.ofNat n)), .val (.int pt), .val (.ref b29), .val (.int (Int32.ofNat mN)), .val (.int oc), .val (.ref b34), .unset, .unset, .unset, .unset] [(.int oc), (.int (Int32.ofNat mN)), (.int (1 : Int32)), (.ref b29), (.int (1 : Int32)), (.ref b34)]))
  obtain ⟨_, _, ⟨T37, L37, k37, n37⟩, -, X37, ⟨Lc37, hQ37, l37, y37, z37⟩, st37⟩ := Jvm.LawKit.callS X36 hx (y := (⟨"com/example/crossweave/crossweave/soap/OctetPatternNextPinLaw", "cell", "([IIII)I"⟩ : MethodName)) hown (mvT hZ (hw _ (List.mem_of_getElem? (i := 2) rfl))) (mvT hZ (hw _ (List.mem_of_getElem? (i := 3) rfl))) (mvT hZ (hw _ (List.mem_of_getElem? (i := 4) rfl))) (mvT hZ (hw _ (List.mem_of_getElem? (i := 5) rfl))) (by decide) (own_pays (W := 2) (rm_cell l Z a0 hw b29 c29 P 1 mN oc h36 n0 Zl36 (by omega) (by omega) ((VP.ext E34).other W36 ne_b29_b34)) hZ (hw _ (List.mem_of_getElem? (i := 5) rfl)) (hw _ (List.mem_of_getElem? (i := 4) rfl)) (by decide) (by decide)) (g := (mkF m 145 #[.val (.int pr), .val (.int oct), .val (.int mr), .val (.int ls), .val (.int (Int32.ofNat n)), .val (.int pt), .val (.ref b29), .val (.int (Int32.ofNat mN)), .val (.int oc), .val (.ref b34), .unset, .unset, .unset, .unset] [(.int oc), (.int (Int32.ofNat mN)), (.int (1 : Int32)), (.ref b29), (.int (1 : Int32)), (.ref b34)])) rfl (by rw [hml]; rfl) (argsL := [(.ref b29), (.int (1 : Int32)), (.int (Int32.ofNat mN)), (.int oc)]) (rest := [(.int (1 : Int32)), (.ref b34)]) (lenOf own_f14 rfl) rfl (by show 2 * 0 + _ ≤ _; exact Nat.le_of_eq rfl) (hb hby at_145) (fun _ _ => ⟨rfl, e36, (by decide : 2 + 0 ≤ _), (by decide : 9 + 0 ≤ _)⟩)
  dsimp only [Pt.U, Pt.locs, Pt.cells, Pt.slots] at X37 l37 y37 z37 st37 hQ37
  subst l37 y37 z37
  obtain ⟨rfl, rfl, e37⟩ := hQ37
  try rw [List.append_nil] at X37
  refine own_go (st37 _ (Steps.refl _)) ?_
  show own_Go p e below _ (T37.setTop (mkF m 148 #[.val (.int pr), .val (.int oct), .val (.int mr), .val (.int ls), .val (.int (Int32.ofNat n)), .val (.int pt), .val (.ref b29), .val (.int (Int32.ofNat mN)), .val (.int oc), .val (.ref b34), .unset, .unset, .unset, .unset] [(.int (own_cell P 1 mN oc)), (.int (1 : Int32)), (.ref b34)]))
  obtain ⟨T38, h38, X38, e38, W38, V38', st38⟩ := own_stI X37 hx hZ e37 V36 (by decide) (by decide) (g := (mkF m 148 #[.val (.int pr), .val (.int oct), .val (.int mr), .val (.int ls), .val (.int (Int32.ofNat n)), .val (.int pt), .val (.ref b29), .val (.int (Int32.ofNat mN)), .val (.int oc), .val (.ref b34), .unset, .unset, .unset, .unset] [(.int (own_cell P 1 mN oc)), (.int (1 : Int32)), (.ref b34)])) rfl rfl (hb hby at_148) (i := 1) rfl (Nat.le_of_ble_eq_true rfl)
  have V38 : Arv Z h38 b34 c34 .int (5 : Int32) [(.int (own_cell P 0 mN oc)), (.int (own_cell P 1 mN oc)), (.int (0 : Int32)), (.int (0 : Int32)), (.int (0 : Int32))] (.int (0 : Int32)) := V38'
  have N38 := Fr.snoc X38 N36 ge_b34
  have Zl38 : n0 ≤ h38.size := Nat.le_trans Zl36 (Keep.of_wr W38).1
  refine own_go st38 ?_
  show own_Go p e below _ (T38.setTop (mkF m 149 #[.val (.int pr), .val (.int oct), .val (.int mr), .val (.int ls), .val (.int (Int32.ofNat n)), .val (.int pt), .val (.ref b29), .val (.int (Int32.ofNat mN)), .val (.int oc), .val (.ref b34), .unset, .unset, .unset, .unset] []))
  refine own_go (XS.aload X38.here hx rfl (hb hby at_149) rfl rfl (Steps.refl _)) ?_
  show own_Go p e below _ (T38.setTop (mkF m 151 #[.val (.int pr), .val (.int oct), .val (.int mr), .val (.int ls), .val (.int (Int32.ofNat n)), .val (.int pt), .val (.ref b29), .val (.int (Int32.ofNat mN)), .val (.int oc), .val (.ref b34), .unset, .unset, .unset, .unset] [(.ref b34)]))
  refine own_go (XS.iconst X38.here hx rfl (hb hby at_151) (Steps.refl _)) ?_
  show own_Go p e below _ (T38.setTop (mkF m 152 #[.val (.int pr), .val (.int oct), .val (.int mr), .val (.int ls), .val (.int (Int32.ofNat n)), .val (.int pt), .val (.ref b29), .val (.int (Int32.ofNat mN)), .val (.int oc), .val (.ref b34), .unset, .unset, .unset, .unset] [(.int (2 : Int32)), (.ref b34)]))
  refine own_go (XS.aload X38.here hx rfl (hb hby at_152) rfl rfl (Steps.refl _)) ?_
  show own_Go p e below _ (T38.setTop (mkF m 154 #[.val (.int pr), .val (.int oct), .val (.int mr), .val (.int ls), .val (.int (Int32.ofNat n)), .val (.int pt), .val (.ref b29), .val (.int (Int32.ofNat mN)), .val (.int oc), .val (.ref b34), .unset, .unset, .unset, .unset] [(.ref b29), (.int (2 : Int32)), (.ref b34)]))
  refine own_go (XS.iconst X38.here hx rfl (hb hby at_154) (Steps.refl _)) ?_
  show own_Go p e below _ (T38.setTop (mkF m 155 #[.val (.int pr), .val (.int oct), .val (.int mr), .val (.int ls), .val (.int (Int32.ofNat n)), .val (.int pt), .val (.ref b29), .val (.int (Int32.ofNat mN)), .val (.int oc), .val (.ref b34), .unset, .unset, .unset, .unset] [(.int (2 : Int32)), (.ref b29), (.int (2 : Int32)), (.ref b34)]))
  refine own_go (XS.iload X38.here hx rfl (hb hby at_155) rfl (Steps.refl _)) ?_
  show own_Go p e below _ (T38.setTop (mkF m 157 #[.val (.int pr), .val (.int oct), .val (.int mr), .val (.int ls), .val (.int (Int32.ofNat n)), .val (.int pt), .val (.ref b29), .val (.int (Int32.ofNat mN)), .val (.int oc), .val (.ref b34), .unset, .unset, .unset, .unset] [(.int (Int32.ofNat mN)), (.int (2 : Int32)), (.ref b29), (.int (2 : Int32)), (.ref b34)]))
  refine own_go (XS.iload X38.here hx rfl (hb hby at_157) rfl (Steps.refl _)) ?_
  show own_Go p e below _ (T38.setTop (mkF m 159 #[.val (.int pr), .val (.int oct), .val (.int mr), .val (.int ls), .val (.int (Int32.ofNat n)), .val (.int pt), .val (.ref b29), .val (.int (Int32.ofNat mN)), .val (.int oc), .val (.ref b34), .unset, .unset, .unset, .unset] [(.int oc), (.int (Int32.ofNat mN)), (.int (2 : Int32)), (.ref b29), (.int (2 : Int32)), (.ref b34)]))
  obtain ⟨_, _, ⟨T39, L39, k39, n39⟩, -, X39, ⟨Lc39, hQ39, l39, y39, z39⟩, st39⟩ := Jvm.LawKit.callS X38 hx (y := (⟨"com/example/crossweave/crossweave/soap/OctetPatternNextPinLaw", "cell", "([IIII)I"⟩ : MethodName)) hown (mvT hZ (hw _ (List.mem_of_getElem? (i := 2) rfl))) (mvT hZ (hw _ (List.mem_of_getElem? (i := 3) rfl))) (mvT hZ (hw _ (List.mem_of_getElem? (i := 4) rfl))) (mvT hZ (hw _ (List.mem_of_getElem? (i := 5) rfl))) (by decide) (own_pays (W := 2) (rm_cell l Z a0 hw b29 c29 P 2 mN oc h38 n0 Zl38 (by omega) (by omega) (((VP.ext E34).other W36 ne_b29_b34).other W38 ne_b29_b34)) hZ (hw _ (List.mem_of_getElem? (i := 5) rfl)) (hw _ (List.mem_of_getElem? (i := 4) rfl)) (by decide) (by decide)) (g := (mkF m 159 #[.val (.int pr), .val (.int oct), .val (.int mr), .val (.int ls), .val (.int (Int32.ofNat n)), .val (.int pt), .val (.ref b29), .val (.int (Int32.ofNat mN)), .val (.int oc), .val (.ref b34), .unset, .unset, .unset, .unset] [(.int oc), (.int (Int32.ofNat mN)), (.int (2 : Int32)), (.ref b29), (.int (2 : Int32)), (.ref b34)])) rfl (by rw [hml]; rfl) (argsL := [(.ref b29), (.int (2 : Int32)), (.int (Int32.ofNat mN)), (.int oc)]) (rest := [(.int (2 : Int32)), (.ref b34)]) (lenOf own_f14 rfl) rfl (by show 2 * 0 + _ ≤ _; exact Nat.le_of_eq rfl) (hb hby at_159) (fun _ _ => ⟨rfl, e38, (by decide : 2 + 0 ≤ _), (by decide : 9 + 0 ≤ _)⟩)
  dsimp only [Pt.U, Pt.locs, Pt.cells, Pt.slots] at X39 l39 y39 z39 st39 hQ39
  subst l39 y39 z39
  obtain ⟨rfl, rfl, e39⟩ := hQ39
  try rw [List.append_nil] at X39
  refine own_go (st39 _ (Steps.refl _)) ?_
  show own_Go p e below _ (T39.setTop (mkF m 162 #[.val (.int pr), .val (.int oct), .val (.int mr), .val (.int ls), .val (.int (Int32.ofNat n)), .val (.int pt), .val (.ref b29), .val (.int (Int32.ofNat mN)), .val (.int oc), .val (.ref b34), .unset, .unset, .unset, .unset] [(.int (own_cell P 2 mN oc)), (.int (2 : Int32)), (.ref b34)]))
  obtain ⟨T40, h40, X40, e40, W40, V40', st40⟩ := own_stI X39 hx hZ e39 V38 (by decide) (by decide) (g := (mkF m 162 #[.val (.int pr), .val (.int oct), .val (.int mr), .val (.int ls), .val (.int (Int32.ofNat n)), .val (.int pt), .val (.ref b29), .val (.int (Int32.ofNat mN)), .val (.int oc), .val (.ref b34), .unset, .unset, .unset, .unset] [(.int (own_cell P 2 mN oc)), (.int (2 : Int32)), (.ref b34)])) rfl rfl (hb hby at_162) (i := 2) rfl (Nat.le_of_ble_eq_true rfl)
  have V40 : Arv Z h40 b34 c34 .int (5 : Int32) [(.int (own_cell P 0 mN oc)), (.int (own_cell P 1 mN oc)), (.int (own_cell P 2 mN oc)), (.int (0 : Int32)), (.int (0 : Int32))] (.int (0 : Int32)) := V40'
  have N40 := Fr.snoc X40 N38 ge_b34
  have Zl40 : n0 ≤ h40.size := Nat.le_trans Zl38 (Keep.of_wr W40).1
  refine own_go st40 ?_
  show own_Go p e below _ (T40.setTop (mkF m 163 #[.val (.int pr), .val (.int oct), .val (.int mr), .val (.int ls), .val (.int (Int32.ofNat n)), .val (.int pt), .val (.ref b29), .val (.int (Int32.ofNat mN)), .val (.int oc), .val (.ref b34), .unset, .unset, .unset, .unset] []))
  refine own_go (XS.aload X40.here hx rfl (hb hby at_163) rfl rfl (Steps.refl _)) ?_
  show own_Go p e below _ (T40.setTop (mkF m 165 #[.val (.int pr), .val (.int oct), .val (.int mr), .val (.int ls), .val (.int (Int32.ofNat n)), .val (.int pt), .val (.ref b29), .val (.int (Int32.ofNat mN)), .val (.int oc), .val (.ref b34), .unset, .unset, .unset, .unset] [(.ref b34)]))
  refine own_go (XS.iconst X40.here hx rfl (hb hby at_165) (Steps.refl _)) ?_
  show own_Go p e below _ (T40.setTop (mkF m 166 #[.val (.int pr), .val (.int oct), .val (.int mr), .val (.int ls), .val (.int (Int32.ofNat n)), .val (.int pt), .val (.ref b29), .val (.int (Int32.ofNat mN)), .val (.int oc), .val (.ref b34), .unset, .unset, .unset, .unset] [(.int (3 : Int32)), (.ref b34)]))
  refine own_go (XS.aload X40.here hx rfl (hb hby at_166) rfl rfl (Steps.refl _)) ?_
  show own_Go p e below _ (T40.setTop (mkF m 168 #[.val (.int pr), .val (.int oct), .val (.int mr), .val (.int ls), .val (.int (Int32.ofNat n)), .val (.int pt), .val (.ref b29), .val (.int (Int32.ofNat mN)), .val (.int oc), .val (.ref b34), .unset, .unset, .unset, .unset] [(.ref b29), (.int (3 : Int32)), (.ref b34)]))
  refine own_go (XS.iconst X40.here hx rfl (hb hby at_168) (Steps.refl _)) ?_
  show own_Go p e below _ (T40.setTop (mkF m 169 #[.val (.int pr), .val (.int oct), .val (.int mr), .val (.int ls), .val (.int (Int32.ofNat n)), .val (.int pt), .val (.ref b29), .val (.int (Int32.ofNat mN)), .val (.int oc), .val (.ref b34), .unset, .unset, .unset, .unset] [(.int (3 : Int32)), (.ref b29), (.int (3 : Int32)), (.ref b34)]))
  refine own_go (XS.iload X40.here hx rfl (hb hby at_169) rfl (Steps.refl _)) ?_
  show own_Go p e below _ (T40.setTop (mkF m 171 #[.val (.int pr), .val (.int oct), .val (.int mr), .val (.int ls), .val (.int (Int32.ofNat n)), .val (.int pt), .val (.ref b29), .val (.int (Int32.ofNat mN)), .val (.int oc), .val (.ref b34), .unset, .unset, .unset, .unset] [(.int (Int32.ofNat mN)), (.int (3 : Int32)), (.ref b29), (.int (3 : Int32)), (.ref b34)]))
  refine own_go (XS.iload X40.here hx rfl (hb hby at_171) rfl (Steps.refl _)) ?_
  show own_Go p e below _ (T40.setTop (mkF m 173 #[.val (.int pr), .val (.int oct), .val (.int mr), .val (.int ls), .val (.int (Int32.ofNat n)), .val (.int pt), .val (.ref b29), .val (.int (Int32.ofNat mN)), .val (.int oc), .val (.ref b34), .unset, .unset, .unset, .unset] [(.int oc), (.int (Int32.ofNat mN)), (.int (3 : Int32)), (.ref b29), (.int (3 : Int32)), (.ref b34)]))
  obtain ⟨_, _, ⟨T41, L41, k41, n41⟩, -, X41, ⟨Lc41, hQ41, l41, y41, z41⟩, st41⟩ := Jvm.LawKit.callS X40 hx (y := (⟨"com/example/crossweave/crossweave/soap/OctetPatternNextPinLaw", "cell", "([IIII)I"⟩ : MethodName)) hown (mvT hZ (hw _ (List.mem_of_getElem? (i := 2) rfl))) (mvT hZ (hw _ (List.mem_of_getElem? (i := 3) rfl))) (mvT hZ (hw _ (List.mem_of_getElem? (i := 4) rfl))) (mvT hZ (hw _ (List.mem_of_getElem? (i := 5) rfl))) (by decide) (own_pays (W := 2) (rm_cell l Z a0 hw b29 c29 P 3 mN oc h40 n0 Zl40 (by omega) (by omega) ((((VP.ext E34).other W36 ne_b29_b34).other W38 ne_b29_b34).other W40 ne_b29_b34)) hZ (hw _ (List.mem_of_getElem? (i := 5) rfl)) (hw _ (List.mem_of_getElem? (i := 4) rfl)) (by decide) (by decide)) (g := (mkF m 173 #[.val (.int pr), .val (.int oct), .val (.int mr), .val (.int ls), .val (.int (Int32.ofNat n)), .val (.int pt), .val (.ref b29), .val (.int (Int32.ofNat mN)), .val (.int oc), .val (.ref b34), .unset, .unset, .unset, .unset] [(.int oc), (.int (Int32.ofNat mN)), (.int (3 : Int32)), (.ref b29), (.int (3 : Int32)), (.ref b34)])) rfl (by rw [hml]; rfl) (argsL := [(.ref b29), (.int (3 : Int32)), (.int (Int32.ofNat mN)), (.int oc)]) (rest := [(.int (3 : Int32)), (.ref b34)]) (lenOf own_f14 rfl) rfl (by show 2 * 0 + _ ≤ _; exact Nat.le_of_eq rfl) (hb hby at_173) (fun _ _ => ⟨rfl, e40, (by decide : 2 + 0 ≤ _), (by decide : 9 + 0 ≤ _)⟩)
  dsimp only [Pt.U, Pt.locs, Pt.cells, Pt.slots] at X41 l41 y41 z41 st41 hQ41
  subst l41 y41 z41
  obtain ⟨rfl, rfl, e41⟩ := hQ41
  try rw [List.append_nil] at X41
  refine own_go (st41 _ (Steps.refl _)) ?_
  show own_Go p e below _ (T41.setTop (mkF m 176 #[.val (.int pr), .val (.int oct), .val (.int mr), .val (.int ls), .val (.int (Int32.ofNat n)), .val (.int pt), .val (.ref b29), .val (.int (Int32.ofNat mN)), .val (.int oc), .val (.ref b34), .unset, .unset, .unset, .unset] [(.int (own_cell P 3 mN oc)), (.int (3 : Int32)), (.ref b34)]))
  obtain ⟨T42, h42, X42, e42, W42, V42', st42⟩ := own_stI X41 hx hZ e41 V40 (by decide) (by decide) (g := (mkF m 176 #[.val (.int pr), .val (.int oct), .val (.int mr), .val (.int ls), .val (.int (Int32.ofNat n)), .val (.int pt), .val (.ref b29), .val (.int (Int32.ofNat mN)), .val (.int oc), .val (.ref b34), .unset, .unset, .unset, .unset] [(.int (own_cell P 3 mN oc)), (.int (3 : Int32)), (.ref b34)])) rfl rfl (hb hby at_176) (i := 3) rfl (Nat.le_of_ble_eq_true rfl)
  have V42 : Arv Z h42 b34 c34 .int (5 : Int32) [(.int (own_cell P 0 mN oc)), (.int (own_cell P 1 mN oc)), (.int (own_cell P 2 mN oc)), (.int (own_cell P 3 mN oc)), (.int (0 : Int32))] (.int (0 : Int32)) := V42'
  have N42 := Fr.snoc X42 N40 ge_b34
  have Zl42 : n0 ≤ h42.size := Nat.le_trans Zl40 (Keep.of_wr W42).1
  refine own_go st42 ?_
  show own_Go p e below _ (T42.setTop (mkF m 177 #[.val (.int pr), .val (.int oct), .val (.int mr), .val (.int ls), .val (.int (Int32.ofNat n)), .val (.int pt), .val (.ref b29), .val (.int (Int32.ofNat mN)), .val (.int oc), .val (.ref b34), .unset, .unset, .unset, .unset] []))
  refine own_go (XS.aload X42.here hx rfl (hb hby at_177) rfl rfl (Steps.refl _)) ?_
  show own_Go p e below _ (T42.setTop (mkF m 179 #[.val (.int pr), .val (.int oct), .val (.int mr), .val (.int ls), .val (.int (Int32.ofNat n)), .val (.int pt), .val (.ref b29), .val (.int (Int32.ofNat mN)), .val (.int oc), .val (.ref b34), .unset, .unset, .unset, .unset] [(.ref b34)]))
  refine own_go (XS.iconst X42.here hx rfl (hb hby at_179) (Steps.refl _)) ?_
  show own_Go p e below _ (T42.setTop (mkF m 180 #[.val (.int pr), .val (.int oct), .val (.int mr), .val (.int ls), .val (.int (Int32.ofNat n)), .val (.int pt), .val (.ref b29), .val (.int (Int32.ofNat mN)), .val (.int oc), .val (.ref b34), .unset, .unset, .unset, .unset] [(.int (4 : Int32)), (.ref b34)]))
  refine own_go (XS.aload X42.here hx rfl (hb hby at_180) rfl rfl (Steps.refl _)) ?_
  show own_Go p e below _ (T42.setTop (mkF m 182 #[.val (.int pr), .val (.int oct), .val (.int mr), .val (.int ls), .val (.int (Int32.ofNat n)), .val (.int pt), .val (.ref b29), .val (.int (Int32.ofNat mN)), .val (.int oc), .val (.ref b34), .unset, .unset, .unset, .unset] [(.ref b29), (.int (4 : Int32)), (.ref b34)]))
  refine own_go (XS.iconst X42.here hx rfl (hb hby at_182) (Steps.refl _)) ?_
  show own_Go p e below _ (T42.setTop (mkF m 183 #[.val (.int pr), .val (.int oct), .val (.int mr), .val (.int ls), .val (.int (Int32.ofNat n)), .val (.int pt), .val (.ref b29), .val (.int (Int32.ofNat mN)), .val (.int oc), .val (.ref b34), .unset, .unset, .unset, .unset] [(.int (4 : Int32)), (.ref b29), (.int (4 : Int32)), (.ref b34)]))
  refine own_go (XS.iload X42.here hx rfl (hb hby at_183) rfl (Steps.refl _)) ?_
  show own_Go p e below _ (T42.setTop (mkF m 185 #[.val (.int pr), .val (.int oct), .val (.int mr), .val (.int ls), .val (.int (Int32.ofNat n)), .val (.int pt), .val (.ref b29), .val (.int (Int32.ofNat mN)), .val (.int oc), .val (.ref b34), .unset, .unset, .unset, .unset] [(.int (Int32.ofNat mN)), (.int (4 : Int32)), (.ref b29), (.int (4 : Int32)), (.ref b34)]))
  refine own_go (XS.iload X42.here hx rfl (hb hby at_185) rfl (Steps.refl _)) ?_
  show own_Go p e below _ (T42.setTop (mkF m 187 #[.val (.int pr), .val (.int oct), .val (.int mr), .val (.int ls), .val (.int (Int32.ofNat n)), .val (.int pt), .val (.ref b29), .val (.int (Int32.ofNat mN)), .val (.int oc), .val (.ref b34), .unset, .unset, .unset, .unset] [(.int oc), (.int (Int32.ofNat mN)), (.int (4 : Int32)), (.ref b29), (.int (4 : Int32)), (.ref b34)]))
  obtain ⟨_, _, ⟨T43, L43, k43, n43⟩, -, X43, ⟨Lc43, hQ43, l43, y43, z43⟩, st43⟩ := Jvm.LawKit.callS X42 hx (y := (⟨"com/example/crossweave/crossweave/soap/OctetPatternNextPinLaw", "cell", "([IIII)I"⟩ : MethodName)) hown (mvT hZ (hw _ (List.mem_of_getElem? (i := 2) rfl))) (mvT hZ (hw _ (List.mem_of_getElem? (i := 3) rfl))) (mvT hZ (hw _ (List.mem_of_getElem? (i := 4) rfl))) (mvT hZ (hw _ (List.mem_of_getElem? (i := 5) rfl))) (by decide) (own_pays (W := 2) (rm_cell l Z a0 hw b29 c29 P 4 mN oc h42 n0 Zl42 (by omega) (by omega) (((((VP.ext E34).other W36 ne_b29_b34).other W38 ne_b29_b34).other W40 ne_b29_b34).other W42 ne_b29_b34)) hZ (hw _ (List.mem_of_getElem? (i := 5) rfl)) (hw _ (List.mem_of_getElem? (i := 4) rfl)) (by decide) (by decide)) (g := (mkF m 187 #[.val (.int pr), .val (.int oct), .val (.int mr), .val (.int ls), .val (.int (Int32.ofNat n)), .val (.int pt), .val (.ref b29), .val (.int (Int32.ofNat mN)), .val (.int oc), .val (.ref b34), .unset, .unset, .unset, .unset] [(.int oc), (.int (Int32.ofNat mN)), (.int (4 : Int32)), (.ref b29), (.int (4 : Int32)), (.ref b34)])) rfl (by rw [hml]; rfl) (argsL := [(.ref b29), (.int (4 : Int32)), (.int (Int32.ofNat mN)), (.int oc)]) (rest := [(.int (4 : Int32)), (.ref b34)]) (lenOf own_f14 rfl) rfl (by show 2 * 0 + _ ≤ _; exact Nat.le_of_eq rfl) (hb hby at_187) (fun _ _ => ⟨rfl, e42, (by decide : 2 + 0 ≤ _), (by decide : 9 + 0 ≤ _)⟩)
  dsimp only [Pt.U, Pt.locs, Pt.cells, Pt.slots] at X43 l43 y43 z43 st43 hQ43
  subst l43 y43 z43
  obtain ⟨rfl, rfl, e43⟩ := hQ43
  try rw [List.append_nil] at X43
  refine own_go (st43 _ (Steps.refl _)) ?_
  show own_Go p e below _ (T43.setTop (mkF m 190 #[.val (.int pr), .val (.int oct), .val (.int mr), .val (.int ls), .val (.int (Int32.ofNat n)), .val (.int pt), .val (.ref b29), .val (.int (Int32.ofNat mN)), .val (.int oc), .val (.ref b34), .unset, .unset, .unset, .unset] [(.int (own_cell P 4 mN oc)), (.int (4 : Int32)), (.ref b34)]))
  obtain ⟨T44, h44, X44, e44, W44, V44', st44⟩ := own_stI X43 hx hZ e43 V42 (by decide) (by decide) (g := (mkF m 190 #[.val (.int pr), .val (.int oct), .val (.int mr), .val (.int ls), .val (.int (Int32.ofNat n)), .val (.int pt), .val (.ref b29), .val (.int (Int32.ofNat mN)), .val (.int oc), .val (.ref b34), .unset, .unset, .unset, .unset] [(.int (own_cell P 4 mN oc)), (.int (4 : Int32)), (.ref b34)])) rfl rfl (hb hby at_190) (i := 4) rfl (Nat.le_of_ble_eq_true rfl)
  have V44 : Arv Z h44 b34 c34 .int (5 : Int32) [(.int (own_cell P 0 mN oc)), (.int (own_cell P 1 mN oc)), (.int (own_cell P 2 mN oc)), (.int (own_cell P 3 mN oc)), (.int (own_cell P 4 mN oc))] (.int (0 : Int32)) := V44'
  have N44 := Fr.snoc X44 N42 ge_b34
  have Zl44 : n0 ≤ h44.size := Nat.le_trans Zl42 (Keep.of_wr W44).1
  refine own_go st44 ?_
  show own_Go p e below _ (T44.setTop (mkF m 191 #[.val (.int pr), .val (.int oct), .val (.int mr), .val (.int ls), .val (.int (Int32.ofNat n)), .val (.int pt), .val (.ref b29), .val (.int (Int32.ofNat mN)), .val (.int oc), .val (.ref b34), .unset, .unset, .unset, .unset] []))
  have VS : Arv Z h44 b34 c34 .int (5 : Int32) (own_vN (own_S P mN oc) 5) (.int (0 : Int32)) := V44
  show own_Go p e below _ (T44.setTop (mkF m 191 #[.val (.int pr), .val (.int oct), .val (.int mr), .val (.int ls), .val (.int (Int32.ofNat n)), .val (.int pt), .val (.ref b29), .val (.int (Int32.ofNat mN)), .val (.int oc), .val (.ref b34), .unset, .unset, .unset, .unset] []))
  refine own_go (XS.iload X44.here hx rfl (hb hby at_191) rfl (Steps.refl _)) ?_
  show own_Go p e below _ (T44.setTop (mkF m 193 #[.val (.int pr), .val (.int oct), .val (.int mr), .val (.int ls), .val (.int (Int32.ofNat n)), .val (.int pt), .val (.ref b29), .val (.int (Int32.ofNat mN)), .val (.int oc), .val (.ref b34), .unset, .unset, .unset, .unset] [(.int (Int32.ofNat mN))]))
  refine own_go (XS.iconst X44.here hx rfl (hb hby at_193) (Steps.refl _)) ?_
  show own_Go p e below _ (T44.setTop (mkF m 194 #[.val (.int pr), .val (.int oct), .val (.int mr), .val (.int ls), .val (.int (Int32.ofNat n)), .val (.int pt), .val (.ref b29), .val (.int (Int32.ofNat mN)), .val (.int oc), .val (.ref b34), .unset, .unset, .unset, .unset] [(.int (1 : Int32)), (.int (Int32.ofNat mN))]))
  refine own_go (XS.iadd X44.here hx rfl (hb hby at_194) rfl (Steps.refl _)) ?_
  show own_Go p e below _ (T44.setTop (mkF m 195 #[.val (.int pr), .val (.int oct), .val (.int mr), .val (.int ls), .val (.int (Int32.ofNat n)), .val (.int pt), .val (.ref b29), .val (.int (Int32.ofNat mN)), .val (.int oc), .val (.ref b34), .unset, .unset, .unset, .unset] [(.int ((Int32.ofNat mN) + (1 : Int32)))]))
  rw [own_n1]
  show own_Go p e below _ (T44.setTop (mkF m 195 #[.val (.int pr), .val (.int oct), .val (.int mr), .val (.int ls), .val (.int (Int32.ofNat n)), .val (.int pt), .val (.ref b29), .val (.int (Int32.ofNat mN)), .val (.int oc), .val (.ref b34), .unset, .unset, .unset, .unset] [(.int (Int32.ofNat (mN + 1)))]))
  refine own_go (XS.istore X44.here hx rfl (hb hby at_195) rfl (l' := #[.val (.int pr), .val (.int oct), .val (.int mr), .val (.int ls), .val (.int (Int32.ofNat n)), .val (.int pt), .val (.ref b29), .val (.int (Int32.ofNat mN)), .val (.int oc), .val (.ref b34), .val (.int (Int32.ofNat (mN + 1))), .unset, .unset, .unset]) rfl (Steps.refl _)) ?_
  show own_Go p e below _ (T44.setTop (mkF m 197 #[.val (.int pr), .val (.int oct), .val (.int mr), .val (.int ls), .val (.int (Int32.ofNat n)), .val (.int pt), .val (.ref b29), .val (.int (Int32.ofNat mN)), .val (.int oc), .val (.ref b34), .val (.int (Int32.ofNat (mN + 1))), .unset, .unset, .unset] []))
  refine own_go (XS.iconst X44.here hx rfl (hb hby at_197) (Steps.refl _)) ?_
  show own_Go p e below _ (T44.setTop (mkF m 198 #[.val (.int pr), .val (.int oct), .val (.int mr), .val (.int ls), .val (.int (Int32.ofNat n)), .val (.int pt), .val (.ref b29), .val (.int (Int32.ofNat mN)), .val (.int oc), .val (.ref b34), .val (.int (Int32.ofNat (mN + 1))), .unset, .unset, .unset] [(.int (0 : Int32))]))
  refine own_go (XS.istore X44.here hx rfl (hb hby at_198) rfl (l' := #[.val (.int pr), .val (.int oct), .val (.int mr), .val (.int ls), .val (.int (Int32.ofNat n)), .val (.int pt), .val (.ref b29), .val (.int (Int32.ofNat mN)), .val (.int oc), .val (.ref b34), .val (.int (Int32.ofNat (mN + 1))), .val (.int (0 : Int32)), .unset, .unset]) rfl (Steps.refl _)) ?_
  show own_Go p e below _ (T44.setTop (mkF m 200 #[.val (.int pr), .val (.int oct), .val (.int mr), .val (.int ls), .val (.int (Int32.ofNat n)), .val (.int pt), .val (.ref b29), .val (.int (Int32.ofNat mN)), .val (.int oc), .val (.ref b34), .val (.int (Int32.ofNat (mN + 1))), .val (.int (0 : Int32)), .unset, .unset] []))
  suffices K1 : ∀ (e1 : Nat) (T_K1 : State) (locs_K1 : List Loc), e1 = own_w n (own_end (own_S P mN oc) P mN) 1 → Stand p l e room_1 s m #[(.int pr), (.int oct), (.int mr), (.int ls)] below meth c T_K1 locs_K1 2 9 → T_K1.heap = h44 → Fr n0 locs_K1 → own_Go p e below (own_G s (fun v h L => v = some (.int 1) ∧ Fr n0 L) room_1.cells room_1.slots) (T_K1.setTop (mkF m 216 #[.val (.int pr), .val (.int oct), .val (.int mr), .val (.int ls), .val (.int (Int32.ofNat n)), .val (.int pt), .val (.ref b29), .val (.int (Int32.ofNat mN)), .val (.int oc), .val (.ref b34), .val (.int (Int32.ofNat (mN + 1))), .val (.int (Int32.ofNat e1)), .unset, .unset] [])) by
    have hq : 1 ≤ n := hn
    refine own_go (XS.aload X44.here hx rfl (hb hby at_200) rfl rfl (Steps.refl _)) ?_
    show own_Go p e below _ (T44.setTop (mkF m 202 #[.val (.int pr), .val (.int oct), .val (.int mr), .val (.int ls), .val (.int (Int32.ofNat n)), .val (.int pt), .val (.ref b29), .val (.int (Int32.ofNat mN)), .val (.int oc), .val (.ref b34), .val (.int (Int32.ofNat (mN + 1))), .val (.int (0 : Int32)), .unset, .unset] [(.ref b34)]))
    refine own_go (XS.iload X44.here hx rfl (hb hby at_202) rfl (Steps.refl _)) ?_
    show own_Go p e below _ (T44.setTop (mkF m 204 #[.val (.int pr), .val (.int oct), .val (.int mr), .val (.int ls), .val (.int (Int32.ofNat n)), .val (.int pt), .val (.ref b29), .val (.int (Int32.ofNat mN)), .val (.int oc), .val (.ref b34), .val (.int (Int32.ofNat (mN + 1))), .val (.int (0 : Int32)), .unset, .unset] [(.int (Int32.ofNat (mN + 1))), (.ref b34)]))
    refine own_go (XS.aload X44.here hx rfl (hb hby at_204) rfl rfl (Steps.refl _)) ?_
    show own_Go p e below _ (T44.setTop (mkF m 206 #[.val (.int pr), .val (.int oct), .val (.int mr), .val (.int ls), .val (.int (Int32.ofNat n)), .val (.int pt), .val (.ref b29), .val (.int (Int32.ofNat mN)), .val (.int oc), .val (.ref b34), .val (.int (Int32.ofNat (mN + 1))), .val (.int (0 : Int32)), .unset, .unset] [(.ref b29), (.int (Int32.ofNat (mN + 1))), (.ref b34)]))
    refine own_go (XS.iconst X44.here hx rfl (hb hby at_206) (Steps.refl _)) ?_
    show own_Go p e below _ (T44.setTop (mkF m 207 #[.val (.int pr), .val (.int oct), .val (.int mr), .val (.int ls), .val (.int (Int32.ofNat n)), .val (.int pt), .val (.ref b29), .val (.int (Int32.ofNat mN)), .val (.int oc), .val (.ref b34), .val (.int (Int32.ofNat (mN + 1))), .val (.int (0 : Int32)), .unset, .unset] [(.int (1 : Int32)), (.ref b29), (.int (Int32.ofNat (mN + 1))), (.ref b34)]))
    obtain ⟨_, _, ⟨T45, L45, k45, n45⟩, -, X45, ⟨Lc45, hQ45, l45, y45, z45⟩, st45⟩ := Jvm.LawKit.callS X44 hx (y := (⟨"com/example/crossweave/crossweave/soap/OctetPatternNextPinLaw", "ends", "([II[II)Z"⟩ : MethodName)) hown (mvT hZ (hw _ (List.mem_of_getElem? (i := 6) rfl))) (mvT hZ (hw _ (List.mem_of_getElem? (i := 7) rfl))) (mvT hZ (hw _ (List.mem_of_getElem? (i := 4) rfl))) (mvT hZ (hw _ (List.mem_of_getElem? (i := 8) rfl))) (by decide) (own_pays (W := 0) (rm_ends1 l Z a0 hw b34 b29 c34 c29 (own_S P mN oc) P mN h44 n0 Zl44 (by omega) VS ((((((VP.ext E34).other W36 ne_b29_b34).other W38 ne_b29_b34).other W40 ne_b29_b34).other W42 ne_b29_b34).other W44 ne_b29_b34)) hZ (hw _ (List.mem_of_getElem? (i := 8) rfl)) (hw _ (List.mem_of_getElem? (i := 4) rfl)) (by decide) (by decide)) (g := (mkF m 207 #[.val (.int pr), .val (.int oct), .val (.int mr), .val (.int ls), .val (.int (Int32.ofNat n)), .val (.int pt), .val (.ref b29), .val (.int (Int32.ofNat mN)), .val (.int oc), .val (.ref b34), .val (.int (Int32.ofNat (mN + 1))), .val (.int (0 : Int32)), .unset, .unset] [(.int (1 : Int32)), (.ref b29), (.int (Int32.ofNat (mN + 1))), (.ref b34)])) rfl (by rw [hml]; rfl) (argsL := [(.ref b34), (.int (Int32.ofNat (mN + 1))), (.ref b29), (.int (1 : Int32))]) (rest := []) (lenOf own_f15 rfl) rfl (by show 2 * 0 + _ ≤ _; exact Nat.le_of_eq rfl) (hb hby at_207) (fun _ _ => ⟨rfl, e44, (by decide : 2 + 0 ≤ _), (by decide : 9 + 0 ≤ _)⟩)
    dsimp only [Pt.U, Pt.locs, Pt.cells, Pt.slots] at X45 l45 y45 z45 st45 hQ45
    subst l45 y45 z45
    obtain ⟨rfl, rfl, e45⟩ := hQ45
    try rw [List.append_nil] at X45
    refine own_go (st45 _ (Steps.refl _)) ?_
    show own_Go p e below _ (T45.setTop (mkF m 210 #[.val (.int pr), .val (.int oct), .val (.int mr), .val (.int ls), .val (.int (Int32.ofNat n)), .val (.int pt), .val (.ref b29), .val (.int (Int32.ofNat mN)), .val (.int oc), .val (.ref b34), .val (.int (Int32.ofNat (mN + 1))), .val (.int (0 : Int32)), .unset, .unset] [(.int (own_b (own_end (own_S P mN oc) P mN 1 = true)))]))
    by_cases hz : own_end (own_S P mN oc) P mN 1 = true
    · refine own_go (XS.ifNo X45.here hx rfl (hb hby at_210) rfl ((if0 _ _).trans (feq (own_b_nz hz)).1) (Steps.refl _)) ?_
      show own_Go p e below _ (T45.setTop (mkF m 213 #[.val (.int pr), .val (.int oct), .val (.int mr), .val (.int ls), .val (.int (Int32.ofNat n)), .val (.int pt), .val (.ref b29), .val (.int (Int32.ofNat mN)), .val (.int oc), .val (.ref b34), .val (.int (Int32.ofNat (mN + 1))), .val (.int (0 : Int32)), .unset, .unset] []))
      refine own_go (XS.iconst X45.here hx rfl (hb hby at_213) (Steps.refl _)) ?_
      show own_Go p e below _ (T45.setTop (mkF m 214 #[.val (.int pr), .val (.int oct), .val (.int mr), .val (.int ls), .val (.int (Int32.ofNat n)), .val (.int pt), .val (.ref b29), .val (.int (Int32.ofNat mN)), .val (.int oc), .val (.ref b34), .val (.int (Int32.ofNat (mN + 1))), .val (.int (0 : Int32)), .unset, .unset] [(.int (1 : Int32))]))
      refine own_go (XS.istore X45.here hx rfl (hb hby at_214) rfl (l' := #[.val (.int pr), .val (.int oct), .val (.int mr), .val (.int ls), .val (.int (Int32.ofNat n)), .val (.int pt), .val (.ref b29), .val (.int (Int32.ofNat mN)), .val (.int oc), .val (.ref b34), .val (.int (Int32.ofNat (mN + 1))), .val (.int (1 : Int32)), .unset, .unset]) rfl (Steps.refl _)) ?_
      show own_Go p e below _ (T45.setTop (mkF m 216 #[.val (.int pr), .val (.int oct), .val (.int mr), .val (.int ls), .val (.int (Int32.ofNat n)), .val (.int pt), .val (.ref b29), .val (.int (Int32.ofNat mN)), .val (.int oc), .val (.ref b34), .val (.int (Int32.ofNat (mN + 1))), .val (.int (1 : Int32)), .unset, .unset] []))
      exact K1 _ _ _ ((show own_w n (own_end (own_S P mN oc) P mN) 1 = 1 from if_pos (by simp [hq, hz])).symm) X45 e45 N44
    · refine own_go (XS.ifYes X45.here hx rfl (pc0 := 210) (pc' := 216) rfl (hb hby at_210) rfl ((if0 _ _).trans (teq (own_b_f hz)).1) (by decide) (by decide) (Steps.refl _)) ?_
      show own_Go p e below _ (T45.setTop (mkF m 216 #[.val (.int pr), .val (.int oct), .val (.int mr), .val (.int ls), .val (.int (Int32.ofNat n)), .val (.int pt), .val (.ref b29), .val (.int (Int32.ofNat mN)), .val (.int oc), .val (.ref b34), .val (.int (Int32.ofNat (mN + 1))), .val (.int (0 : Int32)), .unset, .unset] []))
      exact K1 _ _ _ ((show own_w n (own_end (own_S P mN oc) P mN) 1 = own_w n (own_end (own_S P mN oc) P mN) 0 from if_neg (by simp [hq, hz])).symm) X45 e45 N44
  intro e1 T_K1 locs_K1 he1 X_K1 e_K1 N_K1
  show own_Go p e below _ (T_K1.setTop (mkF m 216 #[.val (.int pr), .val (.int oct), .val (.int mr), .val (.int ls), .val (.int (Int32.ofNat n)), .val (.int pt), .val (.ref b29), .val (.int (Int32.ofNat mN)), .val (.int oc), .val (.ref b34), .val (.int (Int32.ofNat (mN + 1))), .val (.int (Int32.ofNat e1)), .unset, .unset] []))
  suffices K2 : ∀ (e2 : Nat) (T_K2 : State) (locs_K2 : List Loc), e2 = own_w n (own_end (own_S P mN oc) P mN) 2 → Stand p l e room_1 s m #[(.int pr), (.int oct), (.int mr), (.int ls)] below meth c T_K2 locs_K2 2 9 → T_K2.heap = h44 → Fr n0 locs_K2 → own_Go p e below (own_G s (fun v h L => v = some (.int 1) ∧ Fr n0 L) room_1.cells room_1.slots) (T_K2.setTop (mkF m 238 #[.val (.int pr), .val (.int oct), .val (.int mr), .val (.int ls), .val (.int (Int32.ofNat n)), .val (.int pt), .val (.ref b29), .val (.int (Int32.ofNat mN)), .val (.int oc), .val (.ref b34), .val (.int (Int32.ofNat (mN + 1))), .val (.int (Int32.ofNat e2)), .unset, .unset] [])) by
    refine own_go (XS.iload X_K1.here hx rfl (hb hby at_216) rfl (Steps.refl _)) ?_
    show own_Go p e below _ (T_K1.setTop (mkF m 218 #[.val (.int pr), .val (.int oct), .val (.int mr), .val (.int ls), .val (.int (Int32.ofNat n)), .val (.int pt), .val (.ref b29), .val (.int (Int32.ofNat mN)), .val (.int oc), .val (.ref b34), .val (.int (Int32.ofNat (mN + 1))), .val (.int (Int32.ofNat e1)), .unset, .unset] [(.int (Int32.ofNat n))]))
    refine own_go (XS.iconst X_K1.here hx rfl (hb hby at_218) (Steps.refl _)) ?_
    show own_Go p e below _ (T_K1.setTop (mkF m 219 #[.val (.int pr), .val (.int oct), .val (.int mr), .val (.int ls), .val (.int (Int32.ofNat n)), .val (.int pt), .val (.ref b29), .val (.int (Int32.ofNat mN)), .val (.int oc), .val (.ref b34), .val (.int (Int32.ofNat (mN + 1))), .val (.int (Int32.ofNat e1)), .unset, .unset] [(.int (2 : Int32)), (.int (Int32.ofNat n))]))
    by_cases hn2 : (Int32.ofNat n) < (2 : Int32)
    · have hq : ¬ 2 ≤ n := by have u := (own_ltN (i := n) (j := 2) (by omega) (by omega)).mp hn2; omega
      refine own_go (XS.icmpYes X_K1.here hx rfl (pc0 := 219) (pc' := 238) rfl (hb hby at_219) rfl (tlt hn2).1 (by decide) (by decide) (Steps.refl _)) ?_
      show own_Go p e below _ (T_K1.setTop (mkF m 238 #[.val (.int pr), .val (.int oct), .val (.int mr), .val (.int ls), .val (.int (Int32.ofNat n)), .val (.int pt), .val (.ref b29), .val (.int (Int32.ofNat mN)), .val (.int oc), .val (.ref b34), .val (.int (Int32.ofNat (mN + 1))), .val (.int (Int32.ofNat e1)), .unset, .unset] []))
      exact K2 _ _ _ ((show own_w n (own_end (own_S P mN oc) P mN) 2 = own_w n (own_end (own_S P mN oc) P mN) 1 from if_neg (by simp [hq])).symm ▸ he1) X_K1 e_K1 N_K1
    have hq : 2 ≤ n := by have u : ¬ n < 2 := fun v => hn2 ((own_ltN (i := n) (j := 2) (by omega) (by omega)).mpr v); omega
    refine own_go (XS.icmpNo X_K1.here hx rfl (hb hby at_219) rfl (flt hn2).1 (Steps.refl _)) ?_
    show own_Go p e below _ (T_K1.setTop (mkF m 222 #[.val (.int pr), .val (.int oct), .val (.int mr), .val (.int ls), .val (.int (Int32.ofNat n)), .val (.int pt), .val (.ref b29), .val (.int (Int32.ofNat mN)), .val (.int oc), .val (.ref b34), .val (.int (Int32.ofNat (mN + 1))), .val (.int (Int32.ofNat e1)), .unset, .unset] []))
    refine own_go (XS.aload X_K1.here hx rfl (hb hby at_222) rfl rfl (Steps.refl _)) ?_
    show own_Go p e below _ (T_K1.setTop (mkF m 224 #[.val (.int pr), .val (.int oct), .val (.int mr), .val (.int ls), .val (.int (Int32.ofNat n)), .val (.int pt), .val (.ref b29), .val (.int (Int32.ofNat mN)), .val (.int oc), .val (.ref b34), .val (.int (Int32.ofNat (mN + 1))), .val (.int (Int32.ofNat e1)), .unset, .unset] [(.ref b34)]))
    refine own_go (XS.iload X_K1.here hx rfl (hb hby at_224) rfl (Steps.refl _)) ?_
    show own_Go p e below _ (T_K1.setTop (mkF m 226 #[.val (.int pr), .val (.int oct), .val (.int mr), .val (.int ls), .val (.int (Int32.ofNat n)), .val (.int pt), .val (.ref b29), .val (.int (Int32.ofNat mN)), .val (.int oc), .val (.ref b34), .val (.int (Int32.ofNat (mN + 1))), .val (.int (Int32.ofNat e1)), .unset, .unset] [(.int (Int32.ofNat (mN + 1))), (.ref b34)]))
    refine own_go (XS.aload X_K1.here hx rfl (hb hby at_226) rfl rfl (Steps.refl _)) ?_
    show own_Go p e below _ (T_K1.setTop (mkF m 228 #[.val (.int pr), .val (.int oct), .val (.int mr), .val (.int ls), .val (.int (Int32.ofNat n)), .val (.int pt), .val (.ref b29), .val (.int (Int32.ofNat mN)), .val (.int oc), .val (.ref b34), .val (.int (Int32.ofNat (mN + 1))), .val (.int (Int32.ofNat e1)), .unset, .unset] [(.ref b29), (.int (Int32.ofNat (mN + 1))), (.ref b34)]))
    refine own_go (XS.iconst X_K1.here hx rfl (hb hby at_228) (Steps.refl _)) ?_
    show own_Go p e below _ (T_K1.setTop (mkF m 229 #[.val (.int pr), .val (.int oct), .val (.int mr), .val (.int ls), .val (.int (Int32.ofNat n)), .val (.int pt), .val (.ref b29), .val (.int (Int32.ofNat mN)), .val (.int oc), .val (.ref b34), .val (.int (Int32.ofNat (mN + 1))), .val (.int (Int32.ofNat e1)), .unset, .unset] [(.int (2 : Int32)), (.ref b29), (.int (Int32.ofNat (mN + 1))), (.ref b34)]))
    obtain ⟨_, _, ⟨T46, L46, k46, n46⟩, -, X46, ⟨Lc46, hQ46, l46, y46, z46⟩, st46⟩ := Jvm.LawKit.callS X_K1 hx (y := (⟨"com/example/crossweave/crossweave/soap/OctetPatternNextPinLaw", "ends", "([II[II)Z"⟩ : MethodName)) hown (mvT hZ (hw _ (List.mem_of_getElem? (i := 6) rfl))) (mvT hZ (hw _ (List.mem_of_getElem? (i := 7) rfl))) (mvT hZ (hw _ (List.mem_of_getElem? (i := 4) rfl))) (mvT hZ (hw _ (List.mem_of_getElem? (i := 8) rfl))) (by decide) (own_pays (W := 0) (rm_ends2 l Z a0 hw b34 b29 c34 c29 (own_S P mN oc) P mN h44 n0 Zl44 (by omega) VS ((((((VP.ext E34).other W36 ne_b29_b34).other W38 ne_b29_b34).other W40 ne_b29_b34).other W42 ne_b29_b34).other W44 ne_b29_b34)) hZ (hw _ (List.mem_of_getElem? (i := 8) rfl)) (hw _ (List.mem_of_getElem? (i := 4) rfl)) (by decide) (by decide)) (g := (mkF m 229 #[.val (.int pr), .val (.int oct), .val (.int mr), .val (.int ls), .val (.int (Int32.ofNat n)), .val (.int pt), .val (.ref b29), .val (.int (Int32.ofNat mN)), .val (.int oc), .val (.ref b34), .val (.int (Int32.ofNat (mN + 1))), .val (.int (Int32.ofNat e1)), .unset, .unset] [(.int (2 : Int32)), (.ref b29), (.int (Int32.ofNat (mN + 1))), (.ref b34)])) rfl (by rw [hml]; rfl) (argsL := [(.ref b34), (.int (Int32.ofNat (mN + 1))), (.ref b29), (.int (2 : Int32))]) (rest := []) (lenOf own_f15 rfl) rfl (by show 2 * 0 + _ ≤ _; exact Nat.le_of_eq rfl) (hb hby at_229) (fun _ _ => ⟨rfl, e_K1, (by decide : 2 + 0 ≤ _), (by decide : 9 + 0 ≤ _)⟩)
    dsimp only [Pt.U, Pt.locs, Pt.cells, Pt.slots] at X46 l46 y46 z46 st46 hQ46
    subst l46 y46 z46
    obtain ⟨rfl, rfl, e46⟩ := hQ46
    try rw [List.append_nil] at X46
    refine own_go (st46 _ (Steps.refl _)) ?_
    show own_Go p e below _ (T46.setTop (mkF m 232 #[.val (.int pr), .val (.int oct), .val (.int mr), .val (.int ls), .val (.int (Int32.ofNat n)), .val (.int pt), .val (.ref b29), .val (.int (Int32.ofNat mN)), .val (.int oc), .val (.ref b34), .val (.int (Int32.ofNat (mN + 1))), .val (.int (Int32.ofNat e1)), .unset, .unset] [(.int (own_b (own_end (own_S P mN oc) P mN 2 = true)))]))
    by_cases hz : own_end (own_S P mN oc) P mN 2 = true
    · refine own_go (XS.ifNo X46.here hx rfl (hb hby at_232) rfl ((if0 _ _).trans (feq (own_b_nz hz)).1) (Steps.refl _)) ?_
      show own_Go p e below _ (T46.setTop (mkF m 235 #[.val (.int pr), .val (.int oct), .val (.int mr), .val (.int ls), .val (.int (Int32.ofNat n)), .val (.int pt), .val (.ref b29), .val (.int (Int32.ofNat mN)), .val (.int oc), .val (.ref b34), .val (.int (Int32.ofNat (mN + 1))), .val (.int (Int32.ofNat e1)), .unset, .unset] []))
      refine own_go (XS.iconst X46.here hx rfl (hb hby at_235) (Steps.refl _)) ?_
      show own_Go p e below _ (T46.setTop (mkF m 236 #[.val (.int pr), .val (.int oct), .val (.int mr), .val (.int ls), .val (.int (Int32.ofNat n)), .val (.int pt), .val (.ref b29), .val (.int (Int32.ofNat mN)), .val (.int oc), .val (.ref b34), .val (.int (Int32.ofNat (mN + 1))), .val (.int (Int32.ofNat e1)), .unset, .unset] [(.int (2 : Int32))]))
      refine own_go (XS.istore X46.here hx rfl (hb hby at_236) rfl (l' := #[.val (.int pr), .val (.int oct), .val (.int mr), .val (.int ls), .val (.int (Int32.ofNat n)), .val (.int pt), .val (.ref b29), .val (.int (Int32.ofNat mN)), .val (.int oc), .val (.ref b34), .val (.int (Int32.ofNat (mN + 1))), .val (.int (2 : Int32)), .unset, .unset]) rfl (Steps.refl _)) ?_
      show own_Go p e below _ (T46.setTop (mkF m 238 #[.val (.int pr), .val (.int oct), .val (.int mr), .val (.int ls), .val (.int (Int32.ofNat n)), .val (.int pt), .val (.ref b29), .val (.int (Int32.ofNat mN)), .val (.int oc), .val (.ref b34), .val (.int (Int32.ofNat (mN + 1))), .val (.int (2 : Int32)), .unset, .unset] []))
      exact K2 _ _ _ ((show own_w n (own_end (own_S P mN oc) P mN) 2 = 2 from if_pos (by simp [hq, hz])).symm) X46 e46 N_K1
    · refine own_go (XS.ifYes X46.here hx rfl (pc0 := 232) (pc' := 238) rfl (hb hby at_232) rfl ((if0 _ _).trans (teq (own_b_f hz)).1) (by decide) (by decide) (Steps.refl _)) ?_
      show own_Go p e below _ (T46.setTop (mkF m 238 #[.val (.int pr), .val (.int oct), .val (.int mr), .val (.int ls), .val (.int (Int32.ofNat n)), .val (.int pt), .val (.ref b29), .val (.int (Int32.ofNat mN)), .val (.int oc), .val (.ref b34), .val (.int (Int32.ofNat (mN + 1))), .val (.int (Int32.ofNat e1)), .unset, .unset] []))
      exact K2 _ _ _ ((show own_w n (own_end (own_S P mN oc) P mN) 2 = own_w n (own_end (own_S P mN oc) P mN) 1 from if_neg (by simp [hq, hz])).symm ▸ he1) X46 e46 N_K1
  intro e2 T_K2 locs_K2 he2 X_K2 e_K2 N_K2
  show own_Go p e below _ (T_K2.setTop (mkF m 238 #[.val (.int pr), .val (.int oct), .val (.int mr), .val (.int ls), .val (.int (Int32.ofNat n)), .val (.int pt), .val (.ref b29), .val (.int (Int32.ofNat mN)), .val (.int oc), .val (.ref b34), .val (.int (Int32.ofNat (mN + 1))), .val (.int (Int32.ofNat e2)), .unset, .unset] []))
  suffices K3 : ∀ (e3 : Nat) (T_K3 : State) (locs_K3 : List Loc), e3 = own_w n (own_end (own_S P mN oc) P mN) 3 → Stand p l e room_1 s m #[(.int pr), (.int oct), (.int mr), (.int ls)] below meth c T_K3 locs_K3 2 9 → T_K3.heap = h44 → Fr n0 locs_K3 → own_Go p e below (own_G s (fun v h L => v = some (.int 1) ∧ Fr n0 L) room_1.cells room_1.slots) (T_K3.setTop (mkF m 260 #[.val (.int pr), .val (.int oct), .val (.int mr), .val (.int ls), .val (.int (Int32.ofNat n)), .val (.int pt), .val (.ref b29), .val (.int (Int32.ofNat mN)), .val (.int oc), .val (.ref b34), .val (.int (Int32.ofNat (mN + 1))), .val (.int (Int32.ofNat e3)), .unset, .unset] [])) by
    refine own_go (XS.iload X_K2.here hx rfl (hb hby at_238) rfl (Steps.refl _)) ?_
    show own_Go p e below _ (T_K2.setTop (mkF m 240 #[.val (.int pr), .val (.int oct), .val (.int mr), .val (.int ls), .val (.int (Int32.ofNat n)), .val (.int pt), .val (.ref b29), .val (.int (Int32.ofNat mN)), .val (.int oc), .val (.ref b34), .val (.int (Int32.ofNat (mN + 1))), .val (.int (Int32.ofNat e2)), .unset, .unset] [(.int (Int32.ofNat n))]))
    refine own_go (XS.iconst X_K2.here hx rfl (hb hby at_240) (Steps.refl _)) ?_
    show own_Go p e below _ (T_K2.setTop (mkF m 241 #[.val (.int pr), .val (.int oct), .val (.int mr), .val (.int ls), .val (.int (Int32.ofNat n)), .val (.int pt), .val (.ref b29), .val (.int (Int32.ofNat mN)), .val (.int oc), .val (.ref b34), .val (.int (Int32.ofNat (mN + 1))), .val (.int (Int32.ofNat e2)), .unset, .unset] [(.int (3 : Int32)), (.int (Int32.ofNat n))]))
    by_cases hn3 : (Int32.ofNat n) < (3 : Int32)
    · have hq : ¬ 3 ≤ n := by have u := (own_ltN (i := n) (j := 3) (by omega) (by omega)).mp hn3; omega
      refine own_go (XS.icmpYes X_K2.here hx rfl (pc0 := 241) (pc' := 260) rfl (hb hby at_241) rfl (tlt hn3).1 (by decide) (by decide) (Steps.refl _)) ?_
      show own_Go p e below _ (T_K2.setTop (mkF m 260 #[.val (.int pr), .val (.int oct), .val (.int mr), .val (.int ls), .val (.int (Int32.ofNat n)), .val (.int pt), .val (.ref b29), .val (.int (Int32.ofNat mN)), .val (.int oc), .val (.ref b34), .val (.int (Int32.ofNat (mN + 1))), .val (.int (Int32.ofNat e2)), .unset, .unset] []))
      exact K3 _ _ _ ((show own_w n (own_end (own_S P mN oc) P mN) 3 = own_w n (own_end (own_S P mN oc) P mN) 2 from if_neg (by simp [hq])).symm ▸ he2) X_K2 e_K2 N_K2
    have hq : 3 ≤ n := by have u : ¬ n < 3 := fun v => hn3 ((own_ltN (i := n) (j := 3) (by omega) (by omega)).mpr v); omega
    refine own_go (XS.icmpNo X_K2.here hx rfl (hb hby at_241) rfl (flt hn3).1 (Steps.refl _)) ?_
    show own_Go p e below _ (T_K2.setTop (mkF m 244 #[.val (.int pr), .val (.int oct), .val (.int mr), .val (.int ls), .val (.int (Int32.ofNat n)), .val (.int pt), .val (.ref b29), .val (.int (Int32.ofNat mN)), .val (.int oc), .val (.ref b34), .val (.int (Int32.ofNat (mN + 1))), .val (.int (Int32.ofNat e2)), .unset, .unset] []))
    refine own_go (XS.aload X_K2.here hx rfl (hb hby at_244) rfl rfl (Steps.refl _)) ?_
    show own_Go p e below _ (T_K2.setTop (mkF m 246 #[.val (.int pr), .val (.int oct), .val (.int mr), .val (.int ls), .val (.int (Int32.ofNat n)), .val (.int pt), .val (.ref b29), .val (.int (Int32.ofNat mN)), .val (.int oc), .val (.ref b34), .val (.int (Int32.ofNat (mN + 1))), .val (.int (Int32.ofNat e2)), .unset, .unset] [(.ref b34)]))
    refine own_go (XS.iload X_K2.here hx rfl (hb hby at_246) rfl (Steps.refl _)) ?_
    show own_Go p e below _ (T_K2.setTop (mkF m 248 #[.val (.int pr), .val (.int oct), .val (.int mr), .val (.int ls), .val (.int (Int32.ofNat n)), .val (.int pt), .val (.ref b29), .val (.int (Int32.ofNat mN)), .val (.int oc), .val (.ref b34), .val (.int (Int32.ofNat (mN + 1))), .val (.int (Int32.ofNat e2)), .unset, .unset] [(.int (Int32.ofNat (mN + 1))), (.ref b34)]))
    refine own_go (XS.aload X_K2.here hx rfl (hb hby at_248) rfl rfl (Steps.refl _)) ?_
    show own_Go p e below _ (T_K2.setTop (mkF m 250 #[.val (.int pr), .val (.int oct), .val (.int mr), .val (.int ls), .val (.int (Int32.ofNat n)), .val (.int pt), .val (.ref b29), .val (.int (Int32.ofNat mN)), .val (.int oc), .val (.ref b34), .val (.int (Int32.ofNat (mN + 1))), .val (.int (Int32.ofNat e2)), .unset, .unset] [(.ref b29), (.int (Int32.ofNat (mN + 1))), (.ref b34)]))
    refine own_go (XS.iconst X_K2.here hx rfl (hb hby at_250) (Steps.refl _)) ?_
    show own_Go p e below _ (T_K2.setTop (mkF m 251 #[.val (.int pr), .val (.int oct), .val (.int mr), .val (.int ls), .val (.int (Int32.ofNat n)), .val (.int pt), .val (.ref b29), .val (.int (Int32.ofNat mN)), .val (.int oc), .val (.ref b34), .val (.int (Int32.ofNat (mN + 1))), .val (.int (Int32.ofNat e2)), .unset, .unset] [(.int (3 : Int32)), (.ref b29), (.int (Int32.ofNat (mN + 1))), (.ref b34)]))
    obtain ⟨_, _, ⟨T47, L47, k47, n47⟩, -, X47, ⟨Lc47, hQ47, l47, y47, z47⟩, st47⟩ := Jvm.LawKit.callS X_K2 hx (y := (⟨"com/example/crossweave/crossweave/soap/OctetPatternNextPinLaw", "ends", "([II[II)Z"⟩ : MethodName)) hown (mvT hZ (hw _ (List.mem_of_getElem? (i := 6) rfl))) (mvT hZ (hw _ (List.mem_of_getElem? (i := 7) rfl))) (mvT hZ (hw _ (List.mem_of_getElem? (i := 4) rfl))) (mvT hZ (hw _ (List.mem_of_getElem? (i := 8) rfl))) (by decide) (own_pays (W := 0) (rm_ends3 l Z a0 hw b34 b29 c34 c29 (own_S P mN oc) P mN h44 n0 Zl44 (by omega) VS ((((((VP.ext E34).other W36 ne_b29_b34).other W38 ne_b29_b34).other W40 ne_b29_b34).other W42 ne_b29_b34).other W44 ne_b29_b34)) hZ (hw _ (List.mem_of_getElem? (i := 8) rfl)) (hw _ (List.mem_of_getElem? (i := 4) rfl)) (by decide) (by decide)) (g := (mkF m 251 #[.val (.int pr), .val (.int oct), .val (.int mr), .val (.int ls), .val (.int (Int32.ofNat n)), .val (.int pt), .val (.ref b29), .val (.int (Int32.ofNat mN)), .val (.int oc), .val (.ref b34), .val (.int (Int32.ofNat (mN + 1))), .val (.int (Int32.ofNat e2)), .unset, .unset] [(.int (3 : Int32)), (.ref b29), (.int (Int32.ofNat (mN + 1))), (.ref b34)])) rfl (by rw [hml]; rfl) (argsL := [(.ref b34), (.int (Int32.ofNat (mN + 1))), (.ref b29), (.int (3 : Int32))]) (rest := []) (lenOf own_f15 rfl) rfl (by show 2 * 0 + _ ≤ _; exact Nat.le_of_eq rfl) (hb hby at_251) (fun _ _ => ⟨rfl, e_K2, (by decide : 2 + 0 ≤ _), (by decide : 9 + 0 ≤ _)⟩)
    dsimp only [Pt.U, Pt.locs, Pt.cells, Pt.slots] at X47 l47 y47 z47 st47 hQ47
    subst l47 y47 z47
    obtain ⟨rfl, rfl, e47⟩ := hQ47
    try rw [List.append_nil] at X47
    refine own_go (st47 _ (Steps.refl _)) ?_
    show own_Go p e below _ (T47.setTop (mkF m 254 #[.val (.int pr), .val (.int oct), .val (.int mr), .val (.int ls), .val (.int (Int32.ofNat n)), .val (.int pt), .val (.ref b29), .val (.int (Int32.ofNat mN)), .val (.int oc), .val (.ref b34), .val (.int (Int32.ofNat (mN + 1))), .val (.int (Int32.ofNat e2)), .unset, .unset] [(.int (own_b (own_end (own_S P mN oc) P mN 3 = true)))]))
    by_cases hz : own_end (own_S P mN oc) P mN 3 = true
    · refine own_go (XS.ifNo X47.here hx rfl (hb hby at_254) rfl ((if0 _ _).trans (feq (own_b_nz hz)).1) (Steps.refl _)) ?_
      show own_Go p e below _ (T47.setTop (mkF m 257 #[.val (.int pr), .val (.int oct), .val (.int mr), .val (.int ls), .val (.int (Int32.ofNat n)), .val (.int pt), .val (.ref b29), .val (.int (Int32.ofNat mN)), .val (.int oc), .val (.ref b34), .val (.int (Int32.ofNat (mN + 1))), .val (.int (Int32.ofNat e2)), .unset, .unset] []))
      refine own_go (XS.iconst X47.here hx rfl (hb hby at_257) (Steps.refl _)) ?_
      show own_Go p e below _ (T47.setTop (mkF m 258 #[.val (.int pr), .val (.int oct), .val (.int mr), .val (.int ls), .val (.int (Int32.ofNat n)), .val (.int pt), .val (.ref b29), .val (.int (Int32.ofNat mN)), .val (.int oc), .val (.ref b34), .val (.int (Int32.ofNat (mN + 1))), .val (.int (Int32.ofNat e2)), .unset, .unset] [(.int (3 : Int32))]))
      refine own_go (XS.istore X47.here hx rfl (hb hby at_258) rfl (l' := #[.val (.int pr), .val (.int oct), .val (.int mr), .val (.int ls), .val (.int (Int32.ofNat n)), .val (.int pt), .val (.ref b29), .val (.int (Int32.ofNat mN)), .val (.int oc), .val (.ref b34), .val (.int (Int32.ofNat (mN + 1))), .val (.int (3 : Int32)), .unset, .unset]) rfl (Steps.refl _)) ?_
      show own_Go p e below _ (T47.setTop (mkF m 260 #[.val (.int pr), .val (.int oct), .val (.int mr), .val (.int ls), .val (.int (Int32.ofNat n)), .val (.int pt), .val (.ref b29), .val (.int (Int32.ofNat mN)), .val (.int oc), .val (.ref b34), .val (.int (Int32.ofNat (mN + 1))), .val (.int (3 : Int32)), .unset, .unset] []))
      exact K3 _ _ _ ((show own_w n (own_end (own_S P mN oc) P mN) 3 = 3 from if_pos (by simp [hq, hz])).symm) X47 e47 N_K2
    · refine own_go (XS.ifYes X47.here hx rfl (pc0 := 254) (pc' := 260) rfl (hb hby at_254) rfl ((if0 _ _).trans (teq (own_b_f hz)).1) (by decide) (by decide) (Steps.refl _)) ?_
      show own_Go p e below _ (T47.setTop (mkF m 260 #[.val (.int pr), .val (.int oct), .val (.int mr), .val (.int ls), .val (.int (Int32.ofNat n)), .val (.int pt), .val (.ref b29), .val (.int (Int32.ofNat mN)), .val (.int oc), .val (.ref b34), .val (.int (Int32.ofNat (mN + 1))), .val (.int (Int32.ofNat e2)), .unset, .unset] []))
      exact K3 _ _ _ ((show own_w n (own_end (own_S P mN oc) P mN) 3 = own_w n (own_end (own_S P mN oc) P mN) 2 from if_neg (by simp [hq, hz])).symm ▸ he2) X47 e47 N_K2
  intro e3 T_K3 locs_K3 he3 X_K3 e_K3 N_K3
  show own_Go p e below _ (T_K3.setTop (mkF m 260 #[.val (.int pr), .val (.int oct), .val (.int mr), .val (.int ls), .val (.int (Int32.ofNat n)), .val (.int pt), .val (.ref b29), .val (.int (Int32.ofNat mN)), .val (.int oc), .val (.ref b34), .val (.int (Int32.ofNat (mN + 1))), .val (.int (Int32.ofNat e3)), .unset, .unset] []))
  suffices K4 : ∀ (e4 : Nat) (T_K4 : State) (locs_K4 : List Loc), e4 = own_w n (own_end (own_S P mN oc) P mN) 4 → Stand p l e room_1 s m #[(.int pr), (.int oct), (.int mr), (.int ls)] below meth c T_K4 locs_K4 2 9 → T_K4.heap = h44 → Fr n0 locs_K4 → own_Go p e below (own_G s (fun v h L => v = some (.int 1) ∧ Fr n0 L) room_1.cells room_1.slots) (T_K4.setTop (mkF m 282 #[.val (.int pr), .val (.int oct), .val (.int mr), .val (.int ls), .val (.int (Int32.ofNat n)), .val (.int pt), .val (.ref b29), .val (.int (Int32.ofNat mN)), .val (.int oc), .val (.ref b34), .val (.int (Int32.ofNat (mN + 1))), .val (.int (Int32.ofNat e4)), .unset, .unset] [])) by
    refine own_go (XS.iload X_K3.here hx rfl (hb hby at_260) rfl (Steps.refl _)) ?_
    show own_Go p e below _ (T_K3.setTop (mkF m 262 #[.val (.int pr), .val (.int oct), .val (.int mr), .val (.int ls), .val (.int (Int32.ofNat n)), .val (.int pt), .val (.ref b29), .val (.int (Int32.ofNat mN)), .val (.int oc), .val (.ref b34), .val (.int (Int32.ofNat (mN + 1))), .val (.int (Int32.ofNat e3)), .unset, .unset] [(.int (Int32.ofNat n))]))
    refine own_go (XS.iconst X_K3.here hx rfl (hb hby at_262) (Steps.refl _)) ?_
    show own_Go p e below _ (T_K3.setTop (mkF m 263 #[.val (.int pr), .val (.int oct), .val (.int mr), .val (.int ls), .val (.int (Int32.ofNat n)), .val (.int pt), .val (.ref b29), .val (.int (Int32.ofNat mN)), .val (.int oc), .val (.ref b34), .val (.int (Int32.ofNat (mN + 1))), .val (.int (Int32.ofNat e3)), .unset, .unset] [(.int (4 : Int32)), (.int (Int32.ofNat n))]))
    by_cases hn4 : (Int32.ofNat n) < (4 : Int32)
    · have hq : ¬ 4 ≤ n := by have u := (own_ltN (i := n) (j := 4) (by omega) (by omega)).mp hn4; omega
      refine own_go (XS.icmpYes X_K3.here hx rfl (pc0 := 263) (pc' := 282) rfl (hb hby at_263) rfl (tlt hn4).1 (by decide) (by decide) (Steps.refl _)) ?_
      show own_Go p e below _ (T_K3.setTop (mkF m 282 #[.val (.int pr), .val (.int oct), .val (.int mr), .val (.int ls), .val (.int (Int32.ofNat n)), .val (.int pt), .val (.ref b29), .val (.int (Int32.ofNat mN)), .val (.int oc), .val (.ref b34), .val (.int (Int32.ofNat (mN + 1))), .val (.int (Int32.ofNat e3)), .unset, .unset] []))
      exact K4 _ _ _ ((show own_w n (own_end (own_S P mN oc) P mN) 4 = own_w n (own_end (own_S P mN oc) P mN) 3 from if_neg (by simp [hq])).symm ▸ he3) X_K3 e_K3 N_K3
    have hq : 4 ≤ n := by have u : ¬ n < 4 := fun v => hn4 ((own_ltN (i := n) (j := 4) (by omega) (by omega)).mpr v); omega
    refine own_go (XS.icmpNo X_K3.here hx rfl (hb hby at_263) rfl (flt hn4).1 (Steps.refl _)) ?_
    show own_Go p e below _ (T_K3.setTop (mkF m 266 #[.val (.int pr), .val (.int oct), .val (.int mr), .val (.int ls), .val (.int (Int32.ofNat n)), .val (.int pt), .val (.ref b29), .val (.int (Int32.ofNat mN)), .val (.int oc), .val (.ref b34), .val (.int (Int32.ofNat (mN + 1))), .val (.int (Int32.ofNat e3)), .unset, .unset] []))
    refine own_go (XS.aload X_K3.here hx rfl (hb hby at_266) rfl rfl (Steps.refl _)) ?_
    show own_Go p e below _ (T_K3.setTop (mkF m 268 #[.val (.int pr), .val (.int oct), .val (.int mr), .val (.int ls), .val (.int (Int32.ofNat n)), .val (.int pt), .val (.ref b29), .val (.int (Int32.ofNat mN)), .val (.int oc), .val (.ref b34), .val (.int (Int32.ofNat (mN + 1))), .val (.int (Int32.ofNat e3)), .unset, .unset] [(.ref b34)]))
    refine own_go (XS.iload X_K3.here hx rfl (hb hby at_268) rfl (Steps.refl _)) ?_
    show own_Go p e below _ (T_K3.setTop (mkF m 270 #[.val (.int pr), .val (.int oct), .val (.int mr), .val (.int ls), .val (.int (Int32.ofNat n)), .val (.int pt), .val (.ref b29), .val (.int (Int32.ofNat mN)), .val (.int oc), .val (.ref b34), .val (.int (Int32.ofNat (mN + 1))), .val (.int (Int32.ofNat e3)), .unset, .unset] [(.int (Int32.ofNat (mN + 1))), (.ref b34)]))
    refine own_go (XS.aload X_K3.here hx rfl (hb hby at_270) rfl rfl (Steps.refl _)) ?_
    show own_Go p e below _ (T_K3.setTop (mkF m 272 #[.val (.int pr), .val (.int oct), .val (.int mr), .val (.int ls), .val (.int (Int32.ofNat n)), .val (.int pt), .val (.ref b29), .val (.int (Int32.ofNat mN)), .val (.int oc), .val (.ref b34), .val (.int (Int32.ofNat (mN + 1))), .val (.int (Int32.ofNat e3)), .unset, .unset] [(.ref b29), (.int (Int32.ofNat (mN + 1))), (.ref b34)]))
    refine own_go (XS.iconst X_K3.here hx rfl (hb hby at_272) (Steps.refl _)) ?_
    show own_Go p e below _ (T_K3.setTop (mkF m 273 #[.val (.int pr), .val (.int oct), .val (.int mr), .val (.int ls), .val (.int (Int32.ofNat n)), .val (.int pt), .val (.ref b29), .val (.int (Int32.ofNat mN)), .val (.int oc), .val (.ref b34), .val (.int (Int32.ofNat (mN + 1))), .val (.int (Int32.ofNat e3)), .unset, .unset] [(.int (4 : Int32)), (.ref b29), (.int (Int32.ofNat (mN + 1))), (.ref b34)]))
    obtain ⟨_, _, ⟨T48, L48, k48, n48⟩, -, X48, ⟨Lc48, hQ48, l48, y48, z48⟩, st48⟩ := Jvm.LawKit.callS X_K3 hx (y := (⟨"com/example/crossweave/crossweave/soap/OctetPatternNextPinLaw", "ends", "([II[II)Z"⟩ : MethodName)) hown (mvT hZ (hw _ (List.mem_of_getElem? (i := 6) rfl))) (mvT hZ (hw _ (List.mem_of_getElem? (i := 7) rfl))) (mvT hZ (hw _ (List.mem_of_getElem? (i := 4) rfl))) (mvT hZ (hw _ (List.mem_of_getElem? (i := 8) rfl))) (by decide) (own_pays (W := 0) (rm_ends4 l Z a0 hw b34 b29 c34 c29 (own_S P mN oc) P mN h44 n0 Zl44 (by omega) VS ((((((VP.ext E34).other W36 ne_b29_b34).other W38 ne_b29_b34).other W40 ne_b29_b34).other W42 ne_b29_b34).other W44 ne_b29_b34)) hZ (hw _ (List.mem_of_getElem? (i := 8) rfl)) (hw _ (List.mem_of_getElem? (i := 4) rfl)) (by decide) (by decide)) (g := (mkF m 273 #[.val (.int pr), .val (.int oct), .val (.int mr), .val (.int ls), .val (.int (Int32.ofNat n)), .val (.int pt), .val (.ref b29), .val (.int (Int32.ofNat mN)), .val (.int oc), .val (.ref b34), .val (.int (Int32.ofNat (mN + 1))), .val (.int (Int32.ofNat e3)), .unset, .unset] [(.int (4 : Int32)), (.ref b29), (.int (Int32.ofNat (mN + 1))), (.ref b34)])) rfl (by rw [hml]; rfl) (argsL := [(.ref b34), (.int (Int32.ofNat (mN + 1))), (.ref b29), (.int (4 : Int32))]) (rest := []) (lenOf own_f15 rfl) rfl (by show 2 * 0 + _ ≤ _; exact Nat.le_of_eq rfl) (hb hby at_273) (fun _ _ => ⟨rfl, e_K3, (by decide : 2 + 0 ≤ _), (by decide : 9 + 0 ≤ _)⟩)
    dsimp only [Pt.U, Pt.locs, Pt.cells, Pt.slots] at X48 l48 y48 z48 st48 hQ48
    subst l48 y48 z48
    obtain ⟨rfl, rfl, e48⟩ := hQ48
    try rw [List.append_nil] at X48
    refine own_go (st48 _ (Steps.refl _)) ?_
    show own_Go p e below _ (T48.setTop (mkF m 276 #[.val (.int pr), .val (.int oct), .val (.int mr), .val (.int ls), .val (.int (Int32.ofNat n)), .val (.int pt), .val (.ref b29), .val (.int (Int32.ofNat mN)), .val (.int oc), .val (.ref b34), .val (.int (Int32.ofNat (mN + 1))), .val (.int (Int32.ofNat e3)), .unset, .unset] [(.int (own_b (own_end (own_S P mN oc) P mN 4 = true)))]))
    by_cases hz : own_end (own_S P mN oc) P mN 4 = true
    · refine own_go (XS.ifNo X48.here hx rfl (hb hby at_276) rfl ((if0 _ _).trans (feq (own_b_nz hz)).1) (Steps.refl _)) ?_
      show own_Go p e below _ (T48.setTop (mkF m 279 #[.val (.int pr), .val (.int oct), .val (.int mr), .val (.int ls), .val (.int (Int32.ofNat n)), .val (.int pt), .val (.ref b29), .val (.int (Int32.ofNat mN)), .val (.int oc), .val (.ref b34), .val (.int (Int32.ofNat (mN + 1))), .val (.int (Int32.ofNat e3)), .unset, .unset] []))
      refine own_go (XS.iconst X48.here hx rfl (hb hby at_279) (Steps.refl _)) ?_
      show own_Go p e below _ (T48.setTop (mkF m 280 #[.val (.int pr), .val (.int oct), .val (.int mr), .val (.int ls), .val (.int (Int32.ofNat n)), .val (.int pt), .val (.ref b29), .val (.int (Int32.ofNat mN)), .val (.int oc), .val (.ref b34), .val (.int (Int32.ofNat (mN + 1))), .val (.int (Int32.ofNat e3)), .unset, .unset] [(.int (4 : Int32))]))
      refine own_go (XS.istore X48.here hx rfl (hb hby at_280) rfl (l' := #[.val (.int pr), .val (.int oct), .val (.int mr), .val (.int ls), .val (.int (Int32.ofNat n)), .val (.int pt), .val (.ref b29), .val (.int (Int32.ofNat mN)), .val (.int oc), .val (.ref b34), .val (.int (Int32.ofNat (mN + 1))), .val (.int (4 : Int32)), .unset, .unset]) rfl (Steps.refl _)) ?_
      show own_Go p e below _ (T48.setTop (mkF m 282 #[.val (.int pr), .val (.int oct), .val (.int mr), .val (.int ls), .val (.int (Int32.ofNat n)), .val (.int pt), .val (.ref b29), .val (.int (Int32.ofNat mN)), .val (.int oc), .val (.ref b34), .val (.int (Int32.ofNat (mN + 1))), .val (.int (4 : Int32)), .unset, .unset] []))
      exact K4 _ _ _ ((show own_w n (own_end (own_S P mN oc) P mN) 4 = 4 from if_pos (by simp [hq, hz])).symm) X48 e48 N_K3
    · refine own_go (XS.ifYes X48.here hx rfl (pc0 := 276) (pc' := 282) rfl (hb hby at_276) rfl ((if0 _ _).trans (teq (own_b_f hz)).1) (by decide) (by decide) (Steps.refl _)) ?_
      show own_Go p e below _ (T48.setTop (mkF m 282 #[.val (.int pr), .val (.int oct), .val (.int mr), .val (.int ls), .val (.int (Int32.ofNat n)), .val (.int pt), .val (.ref b29), .val (.int (Int32.ofNat mN)), .val (.int oc), .val (.ref b34), .val (.int (Int32.ofNat (mN + 1))), .val (.int (Int32.ofNat e3)), .unset, .unset] []))
      exact K4 _ _ _ ((show own_w n (own_end (own_S P mN oc) P mN) 4 = own_w n (own_end (own_S P mN oc) P mN) 3 from if_neg (by simp [hq, hz])).symm ▸ he3) X48 e48 N_K3
  intro e4 T_K4 locs_K4 he4 X_K4 e_K4 N_K4
  show own_Go p e below _ (T_K4.setTop (mkF m 282 #[.val (.int pr), .val (.int oct), .val (.int mr), .val (.int ls), .val (.int (Int32.ofNat n)), .val (.int pt), .val (.ref b29), .val (.int (Int32.ofNat mN)), .val (.int oc), .val (.ref b34), .val (.int (Int32.ofNat (mN + 1))), .val (.int (Int32.ofNat e4)), .unset, .unset] []))
  obtain ⟨T49, h49, b49, g49, X49, e49, E49, A49, D49, st49⟩ := own_newO X_K4 hx hZ hown (hw _ (List.mem_of_getElem? (i := 9) rfl)) (hw _ (List.mem_of_getElem? (i := 10) rfl)) (hw _ (List.mem_of_getElem? (i := 11) rfl)) e_K4 (g := (mkF m 282 #[.val (.int pr), .val (.int oct), .val (.int mr), .val (.int ls), .val (.int (Int32.ofNat n)), .val (.int pt), .val (.ref b29), .val (.int (Int32.ofNat mN)), .val (.int oc), .val (.ref b34), .val (.int (Int32.ofNat (mN + 1))), .val (.int (Int32.ofNat e4)), .unset, .unset] [])) rfl (hb hby at_282) (by decide) (by decide)
  have ne_b29_b49 : b29 ≠ b49 := own_born ((((((VP.ext E34).other W36 ne_b29_b34).other W38 ne_b29_b34).other W40 ne_b29_b34).other W42 ne_b29_b34).other W44 ne_b29_b34).lt g49
  have ne_b34_b49 : b34 ≠ b49 := own_born VS.lt g49
  have ge_b49 : n0 ≤ b49 := Nat.le_trans Zl44 (Nat.le_of_eq g49.symm)
  have Zl49 : n0 ≤ h49.size := Nat.le_trans Zl44 E49.1
  have F49_octets : Fld Z h49 b49 "com/example/crossweave/crossweave/soap/OctetPattern" "octets" "[B" .null := D49 (Or.inr (hw _ (List.mem_of_getElem? (i := 32) rfl))) (ty := (.array .byte)) (by decide)
  have F49_fallback : Fld Z h49 b49 "com/example/crossweave/crossweave/soap/OctetPattern" "fallback" "[I" .null := D49 (Or.inr (hw _ (List.mem_of_getElem? (i := 34) rfl))) (ty := (.array .int)) (by decide)
  refine own_go st49 ?_
  show own_Go p e below _ (T49.setTop (mkF m 285 #[.val (.int pr), .val (.int oct), .val (.int mr), .val (.int ls), .val (.int (Int32.ofNat n)), .val (.int pt), .val (.ref b29), .val (.int (Int32.ofNat mN)), .val (.int oc), .val (.ref b34), .val (.int (Int32.ofNat (mN + 1))), .val (.int (Int32.ofNat e4)), .unset, .unset] [(.ref b49)]))
  refine own_go (XS.dup X49.here hx rfl (hb hby at_285) rfl rfl (Steps.refl _)) ?_
  show own_Go p e below _ (T49.setTop (mkF m 286 #[.val (.int pr), .val (.int oct), .val (.int mr), .val (.int ls), .val (.int (Int32.ofNat n)), .val (.int pt), .val (.ref b29), .val (.int (Int32.ofNat mN)), .val (.int oc), .val (.ref b34), .val (.int (Int32.ofNat (mN + 1))), .val (.int (Int32.ofNat e4)), .unset, .unset] [(.ref b49), (.ref b49)]))
  refine own_go (XS.iload X49.here hx rfl (hb hby at_286) rfl (Steps.refl _)) ?_
  show own_Go p e below _ (T49.setTop (mkF m 288 #[.val (.int pr), .val (.int oct), .val (.int mr), .val (.int ls), .val (.int (Int32.ofNat n)), .val (.int pt), .val (.ref b29), .val (.int (Int32.ofNat mN)), .val (.int oc), .val (.ref b34), .val (.int (Int32.ofNat (mN + 1))), .val (.int (Int32.ofNat e4)), .unset, .unset] [(.int pt), (.ref b49), (.ref b49)]))
  refine own_go (XS.iload X49.here hx rfl (hb hby at_288) rfl (Steps.refl _)) ?_
  show own_Go p e below _ (T49.setTop (mkF m 290 #[.val (.int pr), .val (.int oct), .val (.int mr), .val (.int ls), .val (.int (Int32.ofNat n)), .val (.int pt), .val (.ref b29), .val (.int (Int32.ofNat mN)), .val (.int oc), .val (.ref b34), .val (.int (Int32.ofNat (mN + 1))), .val (.int (Int32.ofNat e4)), .unset, .unset] [(.int (Int32.ofNat n)), (.int pt), (.ref b49), (.ref b49)]))
  obtain ⟨_, _, ⟨T50, L50, k50, n50⟩, -, X50, ⟨Lc50, hQ50, l50, y50, z50⟩, st50⟩ := Jvm.LawKit.callS X49 hx (y := (⟨"com/example/crossweave/crossweave/soap/OctetPatternNextPinLaw", "pattern", "(II)[B"⟩ : MethodName)) hown (mvT hZ (hw _ (List.mem_of_getElem? (i := 12) rfl))) (mvT hZ (hw _ (List.mem_of_getElem? (i := 13) rfl))) (mvT hZ (hw _ (List.mem_of_getElem? (i := 4) rfl))) (mvT hZ (hw _ (List.mem_of_getElem? (i := 14) rfl))) (by decide) (own_pays (W := 2) (rm_pat l Z a0 hw pt n h49 n0 Zl49 hn hn4) hZ (hw _ (List.mem_of_getElem? (i := 14) rfl)) (hw _ (List.mem_of_getElem? (i := 4) rfl)) (by decide) (by decide)) (g := (mkF m 290 #[.val (.int pr), .val (.int oct), .val (.int mr), .val (.int ls), .val (.int (Int32.ofNat n)), .val (.int pt), .val (.ref b29), .val (.int (Int32.ofNat mN)), .val (.int oc), .val (.ref b34), .val (.int (Int32.ofNat (mN + 1))), .val (.int (Int32.ofNat e4)), .unset, .unset] [(.int (Int32.ofNat n)), (.int pt), (.ref b49), (.ref b49)])) rfl (by rw [hml]; rfl) (argsL := [(.int pt), (.int (Int32.ofNat n))]) (rest := [(.ref b49), (.ref b49)]) (lenOf own_f16 rfl) rfl (by show 2 * 0 + _ ≤ _; exact Nat.le_of_eq rfl) (hb hby at_290) (fun _ _ => ⟨rfl, e49, (by decide : 3 + 1 ≤ _), (by decide : 11 + 4 ≤ _)⟩)
  dsimp only [Pt.U, Pt.locs, Pt.cells, Pt.slots] at X50 l50 y50 z50 st50 hQ50
  subst l50 y50 z50
  obtain ⟨h50, e50⟩ : ∃ z, T50.heap = z := ⟨_, rfl⟩
  rw [e50] at hQ50
  obtain ⟨b50, c50, rfl, Nq50, K50, sz_b50, V50, A50⟩ := hQ50
  have N50 := Fr.app N_K4 Nq50
  have Zl50 : n0 ≤ h50.size := Nat.le_trans Zl49 K50.1
  have ne_b29_b50 : b29 ≠ b50 := Nat.ne_of_lt (Nat.lt_of_lt_of_le (((((((VP.ext E34).other W36 ne_b29_b34).other W38 ne_b29_b34).other W40 ne_b29_b34).other W42 ne_b29_b34).other W44 ne_b29_b34).ext E49).lt sz_b50)
  have ne_b34_b50 : b34 ≠ b50 := Nat.ne_of_lt (Nat.lt_of_lt_of_le (VS.ext E49).lt sz_b50)
  have ne_b49_b50 : b49 ≠ b50 := Nat.ne_of_lt (Nat.lt_of_lt_of_le A49.lt sz_b50)
  refine own_go (st50 _ (Steps.refl _)) ?_
  show own_Go p e below _ (T50.setTop (mkF m 293 #[.val (.int pr), .val (.int oct), .val (.int mr), .val (.int ls), .val (.int (Int32.ofNat n)), .val (.int pt), .val (.ref b29), .val (.int (Int32.ofNat mN)), .val (.int oc), .val (.ref b34), .val (.int (Int32.ofNat (mN + 1))), .val (.int (Int32.ofNat e4)), .unset, .unset] [(.ref b50), (.ref b49), (.ref b49)]))
  obtain ⟨_, _, ⟨T51, L51, k51, n51⟩, -, X51, ⟨Lc51, hQ51, l51, y51, z51⟩, st51⟩ := X50.specialBack hx (y := (⟨"com/example/crossweave/crossweave/soap/OctetPattern", "<init>", "([B)V"⟩ : MethodName)) rfl hown (mvT hZ (hw _ (List.mem_of_getElem? (i := 16) rfl))) (mvT hZ (hw _ (List.mem_of_getElem? (i := 17) rfl))) (mvT hZ (hw _ (List.mem_of_getElem? (i := 18) rfl))) (by decide) (own_pays (W := 1) (rm_init l Z a0 hw b49 b50 c50 (own_B pt) n h50 n0 Zl50 hn hn4 (A49.keep K50) ge_b49 (F49_octets.keep K50 nin0) (F49_fallback.keep K50 nin0) V50 A50 ne_b49_b50) hZ (hw _ (List.mem_of_getElem? (i := 18) rfl)) (hw _ (List.mem_of_getElem? (i := 11) rfl)) (by decide) (by decide)) (g := (mkF m 293 #[.val (.int pr), .val (.int oct), .val (.int mr), .val (.int ls), .val (.int (Int32.ofNat n)), .val (.int pt), .val (.ref b29), .val (.int (Int32.ofNat mN)), .val (.int oc), .val (.ref b34), .val (.int (Int32.ofNat (mN + 1))), .val (.int (Int32.ofNat e4)), .unset, .unset] [(.ref b50), (.ref b49), (.ref b49)])) rfl (by rw [hml]; rfl) (Steps.refl _) (a := b49) (argsL := [(.ref b50)]) (rest := [(.ref b49)]) (lenOf own_f17 rfl) rfl (by show 2 * 0 + _ ≤ _; exact Nat.le_of_eq rfl) (hb hby at_293) (fun _ _ => ⟨rfl, e50, (by decide : 4 + 2 ≤ _), (by decide : 15 + 8 ≤ _)⟩)
  dsimp only [Pt.U, Pt.locs, Pt.cells, Pt.slots] at X51 l51 y51 z51 st51 hQ51
  subst l51 y51 z51
  obtain ⟨h51, e51⟩ : ∃ z, T51.heap = z := ⟨_, rfl⟩
  rw [e51] at hQ51
  obtain ⟨rfl, Nq51, K51, bo51, bf51, co51, cf51, Fo51, Ff51, Vo51, Vf51⟩ := hQ51
  have N51 := Fr.app N50 Nq51
  have Zl51 : n0 ≤ h51.size := Nat.le_trans Zl50 K51.1
  refine own_go st51 ?_
  show own_Go p e below _ (T51.setTop (mkF m 296 #[.val (.int pr), .val (.int oct), .val (.int mr), .val (.int ls), .val (.int (Int32.ofNat n)), .val (.int pt), .val (.ref b29), .val (.int (Int32.ofNat mN)), .val (.int oc), .val (.ref b34), .val (.int (Int32.ofNat (mN + 1))), .val (.int (Int32.ofNat e4)), .unset, .unset] [(.ref b49)]))
  refine own_go (XS.astore X51.here hx rfl (hb hby at_296) rfl rfl (l' := #[.val (.int pr), .val (.int oct), .val (.int mr), .val (.int ls), .val (.int (Int32.ofNat n)), .val (.int pt), .val (.ref b29), .val (.int (Int32.ofNat mN)), .val (.int oc), .val (.ref b34), .val (.int (Int32.ofNat (mN + 1))), .val (.int (Int32.ofNat e4)), .val (.ref b49), .unset]) rfl (Steps.refl _)) ?_
  show own_Go p e below _ (T51.setTop (mkF m 298 #[.val (.int pr), .val (.int oct), .val (.int mr), .val (.int ls), .val (.int (Int32.ofNat n)), .val (.int pt), .val (.ref b29), .val (.int (Int32.ofNat mN)), .val (.int oc), .val (.ref b34), .val (.int (Int32.ofNat (mN + 1))), .val (.int (Int32.ofNat e4)), .val (.ref b49), .unset] []))
  refine own_go (XS.aload X51.here hx rfl (hb hby at_298) rfl rfl (Steps.refl _)) ?_
  show own_Go p e below _ (T51.setTop (mkF m 300 #[.val (.int pr), .val (.int oct), .val (.int mr), .val (.int ls), .val (.int (Int32.ofNat n)), .val (.int pt), .val (.ref b29), .val (.int (Int32.ofNat mN)), .val (.int oc), .val (.ref b34), .val (.int (Int32.ofNat (mN + 1))), .val (.int (Int32.ofNat e4)), .val (.ref b49), .unset] [(.ref b49)]))
  refine own_go (XS.iload X51.here hx rfl (hb hby at_300) rfl (Steps.refl _)) ?_
  show own_Go p e below _ (T51.setTop (mkF m 302 #[.val (.int pr), .val (.int oct), .val (.int mr), .val (.int ls), .val (.int (Int32.ofNat n)), .val (.int pt), .val (.ref b29), .val (.int (Int32.ofNat mN)), .val (.int oc), .val (.ref b34), .val (.int (Int32.ofNat (mN + 1))), .val (.int (Int32.ofNat e4)), .val (.ref b49), .unset] [(.int (Int32.ofNat mN)), (.ref b49)]))
  refine own_go (XS.iload X51.here hx rfl (hb hby at_302) rfl (Steps.refl _)) ?_
  show own_Go p e below _ (T51.setTop (mkF m 304 #[.val (.int pr), .val (.int oct), .val (.int mr), .val (.int ls), .val (.int (Int32.ofNat n)), .val (.int pt), .val (.ref b29), .val (.int (Int32.ofNat mN)), .val (.int oc), .val (.ref b34), .val (.int (Int32.ofNat (mN + 1))), .val (.int (Int32.ofNat e4)), .val (.ref b49), .unset] [(.int oc), (.int (Int32.ofNat mN)), (.ref b49)]))
  obtain ⟨cq52, kq52, q52a, q52b, q52c⟩ := isOf hZ e51 ((A49.keep K50).keep K51)
  obtain ⟨_, _, ⟨T52, L52, k52, n52⟩, -, X52, ⟨Lc52, hQ52, l52, y52, z52⟩, st52⟩ := X51.virtualBack hx (y := (⟨"com/example/crossweave/crossweave/soap/OctetPattern", "next", "(II)I"⟩ : MethodName)) (z := (⟨"com/example/crossweave/crossweave/soap/OctetPattern", "next", "(II)I"⟩ : MethodName)) hown (mvT hZ (hw _ (List.mem_of_getElem? (i := 35) rfl))) (mvT hZ (hw _ (List.mem_of_getElem? (i := 36) rfl))) (notFace_of_selects (args := #[]) (mvT hZ (hw _ (List.mem_of_getElem? (i := 38) rfl)))) (mvT hZ (hw _ (List.mem_of_getElem? (i := 38) rfl))) (mvT hZ (hw _ (List.mem_of_getElem? (i := 37) rfl))) (by decide) (own_pays (W := 0) (rm_next l Z a0 hw b49 bo51 bf51 co51 cf51 (own_B pt) (own_Fs (own_Eq (own_B pt)) (n - 1)).1 n mN oc h51 n0 Zl51 hn hn4 (by omega) (own_Fs_le _ _).1 Fo51 Ff51 Vo51 Vf51) hZ (hw _ (List.mem_of_getElem? (i := 39) rfl)) (hw _ (List.mem_of_getElem? (i := 11) rfl)) (by decide) (by decide)) q52a q52c (g := (mkF m 304 #[.val (.int pr), .val (.int oct), .val (.int mr), .val (.int ls), .val (.int (Int32.ofNat n)), .val (.int pt), .val (.ref b29), .val (.int (Int32.ofNat mN)), .val (.int oc), .val (.ref b34), .val (.int (Int32.ofNat (mN + 1))), .val (.int (Int32.ofNat e4)), .val (.ref b49), .unset] [(.int oc), (.int (Int32.ofNat mN)), (.ref b49)])) rfl (by rw [hml]; rfl) (Steps.refl _) (argsL := [(.int (Int32.ofNat mN)), (.int oc)]) (rest := []) (lenOf own_f18 rfl) rfl (by show 2 * 0 + _ ≤ _; exact Nat.le_of_eq rfl) (hb hby at_304) (fun _ _ => ⟨rfl, e51, (by decide : 6 + 0 ≤ _), (by decide : 23 + 0 ≤ _)⟩)
  dsimp only [Pt.U, Pt.locs, Pt.cells, Pt.slots] at X52 l52 y52 z52 st52 hQ52
  subst l52 y52 z52
  obtain ⟨rfl, rfl, e52⟩ := hQ52
  try rw [List.append_nil] at X52
  refine own_go st52 ?_
  show own_Go p e below _ (T52.setTop (mkF m 307 #[.val (.int pr), .val (.int oct), .val (.int mr), .val (.int ls), .val (.int (Int32.ofNat n)), .val (.int pt), .val (.ref b29), .val (.int (Int32.ofNat mN)), .val (.int oc), .val (.ref b34), .val (.int (Int32.ofNat (mN + 1))), .val (.int (Int32.ofNat e4)), .val (.ref b49), .unset] [(.int (Int32.ofNat (own_nxt (fun j => decide ((own_B pt j &&& (255 : Int32)) = oc)) (own_Fs (own_Eq (own_B pt)) (n - 1)).1 (if mN = n then (own_Fs (own_Eq (own_B pt)) (n - 1)).1 (n - 1) else mN))))]))
  refine own_go (XS.istore X52.here hx rfl (hb hby at_307) rfl (l' := #[.val (.int pr), .val (.int oct), .val (.int mr), .val (.int ls), .val (.int (Int32.ofNat n)), .val (.int pt), .val (.ref b29), .val (.int (Int32.ofNat mN)), .val (.int oc), .val (.ref b34), .val (.int (Int32.ofNat (mN + 1))), .val (.int (Int32.ofNat e4)), .val (.ref b49), .val (.int (Int32.ofNat (own_nxt (fun j => decide ((own_B pt j &&& (255 : Int32)) = oc)) (own_Fs (own_Eq (own_B pt)) (n - 1)).1 (if mN = n then (own_Fs (own_Eq (own_B pt)) (n - 1)).1 (n - 1) else mN))))]) rfl (Steps.refl _)) ?_
  show own_Go p e below _ (T52.setTop (mkF m 309 #[.val (.int pr), .val (.int oct), .val (.int mr), .val (.int ls), .val (.int (Int32.ofNat n)), .val (.int pt), .val (.ref b29), .val (.int (Int32.ofNat mN)), .val (.int oc), .val (.ref b34), .val (.int (Int32.ofNat (mN + 1))), .val (.int (Int32.ofNat e4)), .val (.ref b49), .val (.int (Int32.ofNat (own_nxt (fun j => decide ((own_B pt j &&& (255 : Int32)) = oc)) (own_Fs (own_Eq (own_B pt)) (n - 1)).1 (if mN = n then (own_Fs (own_Eq (own_B pt)) (n - 1)).1 (n - 1) else mN))))] []))
  refine own_go (XS.iload X52.here hx rfl (hb hby at_309) rfl (Steps.refl _)) ?_
  show own_Go p e below _ (T52.setTop (mkF m 311 #[.val (.int pr), .val (.int oct), .val (.int mr), .val (.int ls), .val (.int (Int32.ofNat n)), .val (.int pt), .val (.ref b29), .val (.int (Int32.ofNat mN)), .val (.int oc), .val (.ref b34), .val (.int (Int32.ofNat (mN + 1))), .val (.int (Int32.ofNat e4)), .val (.ref b49), .val (.int (Int32.ofNat (own_nxt (fun j => decide ((own_B pt j &&& (255 : Int32)) = oc)) (own_Fs (own_Eq (own_B pt)) (n - 1)).1 (if mN = n then (own_Fs (own_Eq (own_B pt)) (n - 1)).1 (n - 1) else mN))))] [(.int (Int32.ofNat (own_nxt (fun j => decide ((own_B pt j &&& (255 : Int32)) = oc)) (own_Fs (own_Eq (own_B pt)) (n - 1)).1 (if mN = n then (own_Fs (own_Eq (own_B pt)) (n - 1)).1 (n - 1) else mN))))]))
  refine own_go (XS.iload X52.here hx rfl (hb hby at_311) rfl (Steps.refl _)) ?_
  show own_Go p e below _ (T52.setTop (mkF m 313 #[.val (.int pr), .val (.int oct), .val (.int mr), .val (.int ls), .val (.int (Int32.ofNat n)), .val (.int pt), .val (.ref b29), .val (.int (Int32.ofNat mN)), .val (.int oc), .val (.ref b34), .val (.int (Int32.ofNat (mN + 1))), .val (.int (Int32.ofNat e4)), .val (.ref b49), .val (.int (Int32.ofNat (own_nxt (fun j => decide ((own_B pt j &&& (255 : Int32)) = oc)) (own_Fs (own_Eq (own_B pt)) (n - 1)).1 (if mN = n then (own_Fs (own_Eq (own_B pt)) (n - 1)).1 (n - 1) else mN))))] [(.int (Int32.ofNat e4)), (.int (Int32.ofNat (own_nxt (fun j => decide ((own_B pt j &&& (255 : Int32)) = oc)) (own_Fs (own_Eq (own_B pt)) (n - 1)).1 (if mN = n then (own_Fs (own_Eq (own_B pt)) (n - 1)).1 (n - 1) else mN))))]))
  have hfin : (own_nxt (fun j => decide ((own_B pt j &&& (255 : Int32)) = oc)) (own_Fs (own_Eq (own_B pt)) (n - 1)).1 (if mN = n then (own_Fs (own_Eq (own_B pt)) (n - 1)).1 (n - 1) else mN)) = e4 := by
    have e1 : (fun j => decide ((own_B pt j &&& (255 : Int32)) = oc)) = own_eq P oc := by funext j; rw [own_b255, hP]; rfl
    have e2 : own_Eq (own_B pt) = own_Eq P := by funext i j; simp only [own_Eq, own_bp, hP]
    rw [e1, e2, he4]
    exact own_law P oc n mN hn hn4 (by omega)
  refine own_go (XS.icmpNo X52.here hx rfl (hb hby at_313) rfl (teq (congrArg Int32.ofNat hfin)).2 (Steps.refl _)) ?_
  show own_Go p e below _ (T52.setTop (mkF m 316 #[.val (.int pr), .val (.int oct), .val (.int mr), .val (.int ls), .val (.int (Int32.ofNat n)), .val (.int pt), .val (.ref b29), .val (.int (Int32.ofNat mN)), .val (.int oc), .val (.ref b34), .val (.int (Int32.ofNat (mN + 1))), .val (.int (Int32.ofNat e4)), .val (.ref b49), .val (.int (Int32.ofNat (own_nxt (fun j => decide ((own_B pt j &&& (255 : Int32)) = oc)) (own_Fs (own_Eq (own_B pt)) (n - 1)).1 (if mN = n then (own_Fs (own_Eq (own_B pt)) (n - 1)).1 (n - 1) else mN))))] []))
  refine own_go (XS.iconst X52.here hx rfl (hb hby at_316) (Steps.refl _)) ?_
  show own_Go p e below _ (T52.setTop (mkF m 317 #[.val (.int pr), .val (.int oct), .val (.int mr), .val (.int ls), .val (.int (Int32.ofNat n)), .val (.int pt), .val (.ref b29), .val (.int (Int32.ofNat mN)), .val (.int oc), .val (.ref b34), .val (.int (Int32.ofNat (mN + 1))), .val (.int (Int32.ofNat e4)), .val (.ref b49), .val (.int (Int32.ofNat (own_nxt (fun j => decide ((own_B pt j &&& (255 : Int32)) = oc)) (own_Fs (own_Eq (own_B pt)) (n - 1)).1 (if mN = n then (own_Fs (own_Eq (own_B pt)) (n - 1)).1 (n - 1) else mN))))] [(.int (1 : Int32))]))
  refine own_go (XS.goto X52.here hx rfl (pc0 := 317) (pc' := 321) rfl (hb hby at_317) (by decide) (by decide) (Steps.refl _)) ?_
  show own_Go p e below _ (T52.setTop (mkF m 321 #[.val (.int pr), .val (.int oct), .val (.int mr), .val (.int ls), .val (.int (Int32.ofNat n)), .val (.int pt), .val (.ref b29), .val (.int (Int32.ofNat mN)), .val (.int oc), .val (.ref b34), .val (.int (Int32.ofNat (mN + 1))), .val (.int (Int32.ofNat e4)), .val (.ref b49), .val (.int (Int32.ofNat (own_nxt (fun j => decide ((own_B pt j &&& (255 : Int32)) = oc)) (own_Fs (own_Eq (own_B pt)) (n - 1)).1 (if mN = n then (own_Fs (own_Eq (own_B pt)) (n - 1)).1 (n - 1) else mN))))] [(.int (1 : Int32))]))
  exact own_retZ X52 hx hlk e52 Bd.returns (hb hby at_321) (Or.inr rfl) ⟨rfl, N51⟩ (by decide) (by decide)
set_option maxRecDepth 65536 in
set_option maxHeartbeats 40000000 in
theorem comes_1 {Post : Tables → Env → Array Value → State → Outcome → State → Prop} (hpost : ∀ tb e args s v u, (limb_1_1.after args s (.returned v) u = true ∧ limb_1_2.after args s (.returned v) u = true ∧ True) → FrameEnd s (.returned v) u (Jvm.fieldLocs frame_1_writes args s ++ Jvm.arrayLocs frame_1_arrays args s ++ Jvm.staticLocs frame_1_statics s) 24 128 → Post tb e args s (.returned v) u) :
    ArmFor flags0 classFile x code maxLocals ret World_1 tables_1 room_1 Calls_1 rest_1 Pre_1 Post := by
  intro l hfl _ _ p e ha hc hk s m args below hf hA hF happ hP
  obtain ⟨hcalls, hrest, hpre⟩ := hP
  obtain ⟨-, -, -, hnamed, -, -, -, hat⟩ := (Spec.applies_iff hf).mp happ
  obtain ⟨hg, hn⟩ := and_e (Cond.before_iff.mp (show (Jvm.Cond.and given_1 narrow_1).before args s = true from hpre))
  obtain ⟨gc, ga0⟩ := and_e hg
  obtain ⟨w0, w1, w2, w3, rfl⟩ : ∃ w0 w1 w2 w3 : Value, args = #[w0, w1, w2, w3] := by
    have hs : args.size = 4 := by simpa [Cond.value, given_1] using gc
    obtain ⟨L⟩ := args
    match L, hs with
    | [w0, w1, w2, w3], _ => exact ⟨w0, w1, w2, w3, rfl⟩
  have hw := fun d (hd : d ∈ tables_1) => atoms_spec (ws := Jvm.Cond.code x code maxLocals ret :: tables_1) hat d (List.mem_cons_of_mem _ hd)
  obtain ⟨gb0, ga1⟩ := and_e ga0
  obtain ⟨i0, ei0⟩ := is_v gb0
  obtain rfl : w0 = (.int i0) := Option.some.inj ei0
  obtain ⟨gb1, ga2⟩ := and_e ga1
  obtain ⟨i1, ei1⟩ := is_v gb1
  obtain rfl : w1 = (.int i1) := Option.some.inj ei1
  obtain ⟨gb2, ga3⟩ := and_e ga2
  obtain ⟨i2, ei2⟩ := is_v gb2
  obtain rfl : w2 = (.int i2) := Option.some.inj ei2
  obtain ⟨i3, ei3⟩ := is_v ga3
  obtain rfl : w3 = (.int i3) := Option.some.inj ei3
  obtain ⟨n, o, h1, h2, h3, _, L, rfl, ⟨rfl, N⟩, hq⟩ := rm_law l s _ hw i0 i1 i2 i3 s.heap s.heap.size (Nat.le_refl _) p e ha hc hk s m _ below hf ((Spec.applies_iff_loose hf).mp happ).1 ⟨rfl, State.Warmed39.refl s, rfl⟩ trivial
  exact ⟨n, _, h1, h2, h3, hpost _ _ _ _ _ _ ⟨Cond.after_iff.mpr rfl, Cond.after_iff.mpr (eq_i res_at (Term.int_eval (1)) rfl), trivial⟩ ⟨hq.1, hq.2.1, (hq.2.2.sift fun y hy => Or.inr (N y hy)).mono (by decide) (by decide)⟩⟩
theorem main_1_1 : Claimed_1_1 := comes_1 fun _ _ _ _ _ _ h hF => ⟨h.1, hF⟩
theorem main_1_2 : Claimed_1_2 := comes_1 fun _ _ _ _ _ _ h hF => ⟨h.2.1, hF⟩
end Jvm.Pilot.@@N@@
namespace Jvm.Pilot.@@N@@
open Jvm Jvm.ClassFile Sem Op Lib Jvm.Free Jvm.Stand Jvm.Pilot.@@N@@.Jvm.D
/-! MADE BY PROGRAM (witnessworld.py) out of the Statement's table words and the real class files: 9 classes; the members and pool entries that the words name. The judged class is class 1, her method 4. -/
namespace start1
open Jvm.ClassFile
def u (s : String) : CpInfo := .utf8 (stringToUtf16 s)
/-- a pool by its gaps: so many unusable entries, then the entry; so many at the end -/
def gap : Nat → List CpInfo → List CpInfo
  | 0, r => r
  | n + 1, r => .unusable :: gap n r
def poolList (es : List (Nat × CpInfo)) (last : Nat) : List CpInfo := es.foldr (fun e r => gap e.1 (e.2 :: r)) (gap last [])
def pool (es : List (Nat × CpInfo)) (last : Nat) : Array CpInfo := ⟨poolList es last⟩
def fileOf (pool : Array CpInfo) (this : Nat) (attrs : Array Attribute := #[]) (ms : Array MethodInfo := #[]) (fl : Nat := 33) (sup : Nat := 0) (ifs : Array Nat := #[]) (fds : Array FieldInfo := #[]) : ClassFile where
  minorVersion := 0
  majorVersion := 65
  constantPool := pool
  accessFlags := fl
  thisClass := this
  superClass := sup
  interfaces := ifs
  fields := fds
  methods := ms
  attributes := attrs
def plain (name : String) (sup : Option ClassId) : Class where
  name := name
  kind := .ordinary
  loader := none
  accessFlags := 33
  super := sup
  interfaces := #[]
  cf := none
  fields := #[]
  methods := #[]
  instanceTypes := #[]
  staticTypes := #[]
  resolved := #[]
  callSites := []
  init := .initialized
  statics := none
  mirror := none

def pool0 : Array CpInfo := pool [(5, u "<init>"), (0, u "()V"), (1, .class_ 10), (1, u "java/lang/Object"), (85, u "clone"), (0, u "()Ljava/lang/Object;")] 26

def k0c0 : Code := { maxStack := 0, maxLocals := 1, code := object_method_1_code, exceptionTable := #[], attributes := #[] }
def k0m0 : Method := { name := "<init>", desc := "()V", sig := { parameters := [], returnType := none }, accessFlags := 1, code := some k0c0 }
def k0m1 : Method := { name := "clone", desc := "()Ljava/lang/Object;", sig := { parameters := [], returnType := some (.object "java/lang/Object") }, accessFlags := 260, code := none }
/-- java/lang/Object -/
def k0 : Class := { plain "java/lang/Object" none with
  accessFlags := 33
  interfaces := #[]
  cf := some (fileOf pool0 8 #[] #[{ accessFlags := 1, nameIndex := 5, descriptorIndex := 6, attributes := #[] }, { accessFlags := 260, nameIndex := 96, descriptorIndex := 97, attributes := #[] }] 33 0 #[] #[])
  fields := #[]
  methods := #[k0m0, k0m1]
  instanceTypes := #[]
  staticTypes := #[]
  resolved := Array.replicate 124 none
  statics := none }

def pool1 : Array CpInfo := pool [(2, .class_ 4), (1, u "java/lang/Object"), (0, u "<init>"), (0, u "()V"), (0, .integer 16843009), (0, .integer 2147483647), (0, .methodref 10 11), (0, .class_ 12), (0, .nameAndType 13 14), (0, u "com/example/crossweave/crossweave/soap/OctetPatternNextPinLaw"), (0, u "cell"), (0, u "([IIII)I"), (0, .methodref 10 16), (0, .nameAndType 17 18), (0, u "ends"), (0, u "([II[II)Z"), (0, .class_ 20), (0, u "com/example/crossweave/crossweave/soap/OctetPattern"), (0, .methodref 10 22), (0, .nameAndType 23 24), (0, u "pattern"), (0, u "(II)[B"), (0, .methodref 19 26), (0, .nameAndType 5 27), (0, u "([B)V"), (0, .methodref 19 29), (0, .nameAndType 30 31), (0, u "next"), (0, u "(II)I"), (3, u "law"), (0, u "(IIII)Z")] 4

def k1m0 : Method := { name := "<init>", desc := "()V", sig := { parameters := [], returnType := none }, accessFlags := 1, code := none }
def k1c1 : Code := { maxStack := 4, maxLocals := 6, code := method_2_code, exceptionTable := #[], attributes := #[] }
def k1m1 : Method := { name := "pattern", desc := "(II)[B", sig := { parameters := [.int, .int], returnType := some (.array .byte) }, accessFlags := 10, code := some k1c1 }
def k1c2 : Code := { maxStack := 2, maxLocals := 4, code := method_3_code, exceptionTable := #[], attributes := #[] }
def k1m2 : Method := { name := "cell", desc := "([IIII)I", sig := { parameters := [(.array .int), .int, .int, .int], returnType := some .int }, accessFlags := 10, code := some k1c2 }
def k1c3 : Code := { maxStack := 3, maxLocals := 5, code := method_4_code, exceptionTable := #[], attributes := #[] }
def k1m3 : Method := { name := "ends", desc := "([II[II)Z", sig := { parameters := [(.array .int), .int, (.array .int), .int], returnType := some .boolean }, accessFlags := 10, code := some k1c3 }
def k1c4 : Code := { maxStack := 6, maxLocals := 14, code := code, exceptionTable := #[], attributes := #[] }
def k1m4 : Method := { name := "law", desc := "(IIII)Z", sig := { parameters := [.int, .int, .int, .int], returnType := some .boolean }, accessFlags := 9, code := some k1c4 }
/-- com/example/crossweave/crossweave/soap/OctetPatternNextPinLaw -/
def k1 : Class := { plain "com/example/crossweave/crossweave/soap/OctetPatternNextPinLaw" (some 0) with
  accessFlags := 49
  interfaces := #[]
  cf := some (fileOf pool1 10 #[] #[{ accessFlags := 1, nameIndex := 5, descriptorIndex := 6, attributes := #[] }, { accessFlags := 10, nameIndex := 23, descriptorIndex := 24, attributes := #[] }, { accessFlags := 10, nameIndex := 13, descriptorIndex := 14, attributes := #[] }, { accessFlags := 10, nameIndex := 17, descriptorIndex := 18, attributes := #[] }, { accessFlags := 9, nameIndex := 35, descriptorIndex := 36, attributes := #[] }] 49 2 #[] #[])
  fields := #[]
  methods := #[k1m0, k1m1, k1m2, k1m3, k1m4]
  instanceTypes := #[]
  staticTypes := #[]
  resolved := Array.replicate 41 none
  statics := none }

def pool2 : Array CpInfo := pool [(1, .methodref 2 3), (0, .class_ 4), (0, .nameAndType 5 6), (0, u "java/lang/Object"), (0, u "<init>"), (0, u "()V"), (7, .methodref 15 16), (0, .class_ 17), (0, .nameAndType 18 19), (0, u "[B"), (0, u "clone"), (0, u "()Ljava/lang/Object;"), (0, .fieldref 21 22), (0, .class_ 23), (0, .nameAndType 24 17), (0, u "com/example/crossweave/crossweave/soap/OctetPattern"), (0, u "octets"), (0, .fieldref 21 26), (0, .nameAndType 27 28), (0, u "fallback"), (0, u "[I"), (6, u "([B)V"), (7, u "next"), (0, u "(II)I")] 2

def k2c0 : Code := { maxStack := 3, maxLocals := 4, code := prog_116_method_1_code, exceptionTable := #[], attributes := #[] }
def k2m0 : Method := { name := "<init>", desc := "([B)V", sig := { parameters := [(.array .byte)], returnType := none }, accessFlags := 0, code := some k2c0 }
def k2c1 : Code := { maxStack := 3, maxLocals := 4, code := prog_116_method_4_code, exceptionTable := #[], attributes := #[] }
def k2m1 : Method := { name := "next", desc := "(II)I", sig := { parameters := [.int, .int], returnType := some .int }, accessFlags := 0, code := some k2c1 }
/-- com/example/crossweave/crossweave/soap/OctetPattern -/
def k2 : Class := { plain "com/example/crossweave/crossweave/soap/OctetPattern" (some 0) with
  accessFlags := 48
  interfaces := #[]
  cf := some (fileOf pool2 21 #[] #[{ accessFlags := 0, nameIndex := 5, descriptorIndex := 35, attributes := #[] }, { accessFlags := 0, nameIndex := 43, descriptorIndex := 44, attributes := #[] }] 48 2 #[] #[{ accessFlags := 18, nameIndex := 24, descriptorIndex := 17, attributes := #[] }, { accessFlags := 18, nameIndex := 27, descriptorIndex := 28, attributes := #[] }])
  fields := #[{ name := "octets", type := (.array .byte), accessFlags := 18, slot := 0, constantValue := 0 }, { name := "fallback", type := (.array .int), accessFlags := 18, slot := 1, constantValue := 0 }]
  methods := #[k2m0, k2m1]
  instanceTypes := #[(.array .byte), (.array .int)]
  staticTypes := #[]
  resolved := Array.replicate 47 none
  statics := none }

def pool3 : Array CpInfo := pool [(1, .class_ 2), (0, u "java/lang/Cloneable"), (0, .class_ 4), (0, u "java/lang/Object")] 2

/-- java/lang/Cloneable -/
def k3 : Class := { plain "java/lang/Cloneable" (some 0) with
  accessFlags := 1537
  interfaces := #[]
  cf := some (fileOf pool3 1 #[] #[] 1537 3 #[] #[])
  fields := #[]
  methods := #[]
  instanceTypes := #[]
  staticTypes := #[]
  resolved := Array.replicate 7 none
  statics := none }

def pool4 : Array CpInfo := pool [(1, u "java/io/Serializable"), (0, .class_ 1), (0, u "java/lang/Object"), (0, .class_ 3)] 3

/-- java/io/Serializable -/
def k4 : Class := { plain "java/io/Serializable" (some 0) with
  accessFlags := 1537
  interfaces := #[]
  cf := some (fileOf pool4 2 #[] #[] 1537 4 #[] #[])
  fields := #[]
  methods := #[]
  instanceTypes := #[]
  staticTypes := #[]
  resolved := Array.replicate 8 none
  statics := none }

/-- the primitive byte -/
def k5 : Class := { plain "byte" none with kind := .primitive 'B', accessFlags := 0x411 }
/-- [B -/
def k6 : Class := { plain "[B" (some 0) with kind := .array 5 .byte, interfaces := #[3, 4], accessFlags := 1041 }

/-- the primitive int -/
def k7 : Class := { plain "int" none with kind := .primitive 'I', accessFlags := 0x411 }
/-- [I -/
def k8 : Class := { plain "[I" (some 0) with kind := .array 7 .int, interfaces := #[3, 4], accessFlags := 1041 }

def heap : Heap := #[]
def classes : Array Class := #[k0, k1, k2, k3, k4, k5, k6, k7, k8]
def interned : List (Array UInt16 × Addr) := []
def slotsUsed : Nat := 0
def theMethod : MethodId := ⟨1, 4⟩
def args0 : Array Value := #[.int 5, .int 8, .int 11, .int 15]
def aboutOver (below : List Frame) : State where
  vm := { classes := classes, interned := interned.toArray }
  heap := heap
  slotsUsed := slotsUsed
  threads := #[{ frames := .invoking theMethod args0 :: below }]
def below0 : List Frame := [.native { method := ⟨0, 0⟩, args := #[] }]
def about1 : State := aboutOver below0
def p0 : Program := .bare "" "" ""
def e0 : Env := launch0.env 0 0 0
theorem w_frames : about1.frames = Frame.invoking theMethod args0 :: below0 := rfl
set_option maxRecDepth 65536 in
theorem w_args : argsFit about1.vm theMethod args0 = true := by decide +kernel
set_option maxRecDepth 65536 in
theorem w_heap : heapFits about1 = true := by decide +kernel
set_option maxRecDepth 65536 in
theorem w_runnable : about1.curStatus? = some .runnable := by decide +kernel
set_option maxRecDepth 65536 in
theorem w_alone : about1.alone = true := by decide +kernel
set_option maxRecDepth 65536 in
theorem w_named : about1.methodNamed? x = some theMethod := by decide +kernel
set_option maxRecDepth 65536 in
theorem w_hears : about1.hears theMethod below0 = true := by decide +kernel
set_option maxRecDepth 65536 in
theorem w_ripe : about1.ripe theMethod args0 below0 = true := by decide +kernel
theorem w_running : about1.status = .running := rfl
set_option maxRecDepth 65536 in
theorem w_room : about1.hasRoom e0.platform room_1 = true :=
  launch0.hasRoom_least _ room_1 (by decide +kernel) (by decide +kernel) (by decide +kernel) (by decide +kernel) (by decide +kernel) (by decide +kernel)
theorem allAtoms_all (ts : List Jvm.Cond) (a : Array Jvm.Value) (st : Jvm.State) : (allAtoms ts).before a st = ts.all (fun c => c.before a st) := by
  induction ts with
  | nil => rfl
  | cons c t ih =>
    show (Jvm.Cond.and c (allAtoms t)).before a st = _
    rw [Jvm.Cond.before_and, ih, List.all_cons]
def words1 : List Jvm.Cond := Jvm.Cond.code x code maxLocals ret :: tables_1
/-- a 'code' word, met by the world's own term for the bytes: nothing is compared byte by byte -/
theorem code_word {y : MethodName} {bytes : ByteArray} {mx : Nat} {rt : Option FieldType} {a : Array Value} {s : State} {m : MethodId} {meth : Method} {c : Code} (h1 : s.methodNamed? y = some m) (h2 : s.vm.method? m = some meth) (h3 : meth.code = some c) (h4 : c.code = bytes)
    (h5 : (c.maxLocals == mx && c.exceptionTable.isEmpty && decide (c.maxStack ≤ mostOperands) && decide (meth.sig.returnType = rt) && !meth.locks && decide (parseMethodDescriptor y.desc = some meth.sig)) = true) : (Jvm.Cond.code y bytes mx rt).before a s = true := by
  simp only [Bool.and_eq_true, beq_iff_eq, Bool.not_eq_true', decide_eq_true_eq] at h5
  obtain ⟨⟨⟨⟨⟨g1, g2⟩, g3⟩, g4⟩, g5⟩, g6⟩ := h5
  simp [Cond.before, Cond.holds, Cond.value, h1, h2, h3, h4, g1, g2, g3, g4, g5, g6]
def isCode : Jvm.Cond → Bool
  | .code _ _ _ _ => true
  | _ => false
theorem all_split {L : List Jvm.Cond} {P : Jvm.Cond → Bool} (h1 : L.all (fun c => isCode c || P c) = true) (h2 : ∀ c ∈ L.filter isCode, P c = true) : L.all P = true := by
  refine List.all_eq_true.mpr fun c hc => ?_
  have h := List.all_eq_true.mp h1 c hc
  rcases Bool.eq_false_or_eq_true (isCode c) with hi | hi
  · exact h2 c (List.mem_filter.mpr ⟨hc, hi⟩)
  · simpa [hi] using h
set_option maxRecDepth 65536 in
theorem w_c0 : (Jvm.Cond.code x code maxLocals ret).before args0 about1 = true := code_word (m := ⟨1, 4⟩) (meth := k1m4) (c := k1c4) (by decide +kernel) rfl rfl rfl (by decide +kernel)
set_option maxRecDepth 65536 in
theorem w_c1 : (Jvm.Cond.code ({ cls := "com/example/crossweave/crossweave/soap/OctetPatternNextPinLaw", name := "cell", desc := "([IIII)I" } : Jvm.MethodName) method_3_code (4 : Nat) (Option.some Jvm.ClassFile.FieldType.int)).before args0 about1 = true := code_word (m := ⟨1, 2⟩) (meth := k1m2) (c := k1c2) (by decide +kernel) rfl rfl rfl (by decide +kernel)
set_option maxRecDepth 65536 in
theorem w_c2 : (Jvm.Cond.code ({ cls := "com/example/crossweave/crossweave/soap/OctetPatternNextPinLaw", name := "ends", desc := "([II[II)Z" } : Jvm.MethodName) method_4_code (5 : Nat) (Option.some Jvm.ClassFile.FieldType.boolean)).before args0 about1 = true := code_word (m := ⟨1, 3⟩) (meth := k1m3) (c := k1c3) (by decide +kernel) rfl rfl rfl (by decide +kernel)
set_option maxRecDepth 65536 in
theorem w_c3 : (Jvm.Cond.code ({ cls := "com/example/crossweave/crossweave/soap/OctetPatternNextPinLaw", name := "pattern", desc := "(II)[B" } : Jvm.MethodName) method_2_code (6 : Nat) (Option.some (Jvm.ClassFile.FieldType.array Jvm.ClassFile.FieldType.byte))).before args0 about1 = true := code_word (m := ⟨1, 1⟩) (meth := k1m1) (c := k1c1) (by decide +kernel) rfl rfl rfl (by decide +kernel)
set_option maxRecDepth 65536 in
theorem w_c4 : (Jvm.Cond.code ({ cls := "com/example/crossweave/crossweave/soap/OctetPattern", name := "<init>", desc := "([B)V" } : Jvm.MethodName) prog_116_method_1_code (4 : Nat) (Option.none : Option Jvm.ClassFile.FieldType)).before args0 about1 = true := code_word (m := ⟨2, 0⟩) (meth := k2m0) (c := k2c0) (by decide +kernel) rfl rfl rfl (by decide +kernel)
set_option maxRecDepth 65536 in
theorem w_c5 : (Jvm.Cond.code ({ cls := "java/lang/Object", name := "<init>", desc := "()V" } : Jvm.MethodName) object_method_1_code (1 : Nat) (Option.none : Option Jvm.ClassFile.FieldType)).before args0 about1 = true := code_word (m := ⟨0, 0⟩) (meth := k0m0) (c := k0c0) (by decide +kernel) rfl rfl rfl (by decide +kernel)
set_option maxRecDepth 65536 in
theorem w_c6 : (Jvm.Cond.code ({ cls := "com/example/crossweave/crossweave/soap/OctetPattern", name := "next", desc := "(II)I" } : Jvm.MethodName) prog_116_method_4_code (4 : Nat) (Option.some Jvm.ClassFile.FieldType.int)).before args0 about1 = true := code_word (m := ⟨2, 1⟩) (meth := k2m1) (c := k2c1) (by decide +kernel) rfl rfl rfl (by decide +kernel)
def codes1 : List Jvm.Cond := [Jvm.Cond.code x code maxLocals ret, Jvm.Cond.code ({ cls := "com/example/crossweave/crossweave/soap/OctetPatternNextPinLaw", name := "cell", desc := "([IIII)I" } : Jvm.MethodName) method_3_code (4 : Nat) (Option.some Jvm.ClassFile.FieldType.int), Jvm.Cond.code ({ cls := "com/example/crossweave/crossweave/soap/OctetPatternNextPinLaw", name := "ends", desc := "([II[II)Z" } : Jvm.MethodName) method_4_code (5 : Nat) (Option.some Jvm.ClassFile.FieldType.boolean), Jvm.Cond.code ({ cls := "com/example/crossweave/crossweave/soap/OctetPatternNextPinLaw", name := "pattern", desc := "(II)[B" } : Jvm.MethodName) method_2_code (6 : Nat) (Option.some (Jvm.ClassFile.FieldType.array Jvm.ClassFile.FieldType.byte)), Jvm.Cond.code ({ cls := "com/example/crossweave/crossweave/soap/OctetPattern", name := "<init>", desc := "([B)V" } : Jvm.MethodName) prog_116_method_1_code (4 : Nat) (Option.none : Option Jvm.ClassFile.FieldType), Jvm.Cond.code ({ cls := "java/lang/Object", name := "<init>", desc := "()V" } : Jvm.MethodName) object_method_1_code (1 : Nat) (Option.none : Option Jvm.ClassFile.FieldType), Jvm.Cond.code ({ cls := "com/example/crossweave/crossweave/soap/OctetPattern", name := "next", desc := "(II)I" } : Jvm.MethodName) prog_116_method_4_code (4 : Nat) (Option.some Jvm.ClassFile.FieldType.int)]
set_option maxRecDepth 65536 in
theorem codes_eq : words1.filter isCode = codes1 := rfl
theorem w_codes : ∀ c ∈ words1.filter isCode, c.before args0 about1 = true := by
  rw [codes_eq]
  intro c hc
  simp only [codes1, List.mem_cons, List.not_mem_nil, or_false] at hc
  rcases hc with rfl | rfl | rfl | rfl | rfl | rfl | rfl
  · exact w_c0
  · exact w_c1
  · exact w_c2
  · exact w_c3
  · exact w_c4
  · exact w_c5
  · exact w_c6
set_option maxRecDepth 65536 in
theorem w_t1 : (words1.take 24).all (fun c => isCode c || c.before args0 about1) = true := by decide +kernel
set_option maxRecDepth 65536 in
theorem w_t2 : (words1.drop 24).all (fun c => isCode c || c.before args0 about1) = true := by decide +kernel
theorem w_tables : (allAtoms (Jvm.Cond.code x code maxLocals ret :: tables_1)).before args0 about1 = true := by
  rw [allAtoms_all]
  show words1.all (fun c => c.before args0 about1) = true
  refine all_split ?_ w_codes
  rw [← List.take_append_drop 24 words1, List.all_append, w_t1, w_t2]
  rfl
set_option maxRecDepth 65536 in
theorem w_case : (Jvm.Cond.and given_1 narrow_1).before args0 about1 = true := by decide +kernel
theorem w_applies : (headSpec (Jvm.Cond.code x code maxLocals ret :: tables_1) room_1).applies x e0.platform about1 = true :=
  (Spec.applies_iff w_frames).mpr ⟨w_running, w_runnable, w_alone, w_named, w_hears, w_ripe, w_room, w_tables⟩
theorem atStart : AtStart classFile x code maxLocals ret World_1 tables_1 room_1 Calls_1 rest_1 Pre_1 launch0 p0 e0 about1 theMethod args0 below0 :=
  ⟨lists_1, trivial, launch0.admits_env _ _ _, launch0.least_env, fairChoices_fair.cas, fairChoices_fair.clock, w_frames, w_args, w_heap, w_applies, trivial, trivial, w_case⟩
end start1
theorem witness_1 : WitnessClaimed_1 := ⟨start1.p0, start1.e0, start1.about1, start1.theMethod, start1.args0, start1.below0, start1.atStart⟩
end Jvm.Pilot.@@N@@
