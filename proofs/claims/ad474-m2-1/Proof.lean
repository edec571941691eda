import JvmDerived
import JvmDerived.Pilot.@@N@@Statement
import JvmDerived.Pilot.@@N@@Code
set_option linter.unusedVariables false
set_option linter.unusedSimpArgs false
@@BLOCK:NumsL.lean.txt@@
namespace Jvm.Pilot.@@N@@
open Jvm Jvm.ClassFile Sem Op Lib Jvm.Free Jvm.Stand Jvm.LawKit Jvm.RoadKit Bundle Jvm.Pilot.@@N@@.Jvm.D
def own_Go (p : Program) (e : Env) (below : List Frame) (G : Outcome → State → Prop) (t : State) : Prop :=
  ∃ s₂ o, Steps p.tables e below t s₂ ∧ s₂.status = .running ∧ Ended s₂ below o ∧ G o s₂
def own_G (s : State) (Q : Option Value → Heap → List Loc → Prop) (C S : Nat) (o : Outcome) (U : State) : Prop :=
  ∃ v L, o = .returned v ∧ Q v U.heap L ∧ FrameEnd s o U L C S
def own_Met (l : Launch) (Z : State) (y : MethodName) (bytes : ByteArray) (maxL : Nat) (rt : Option FieldType) (rm : Room) (as : Array Value) (h : Heap) (Q : Option Value → Heap → List Loc → Prop) : Prop :=
  MetFree l y (head1 [Jvm.Cond.code y bytes maxL rt] rm) (fun a U => a = as ∧ Z.Warmed39 U.vm ∧ U.heap = h) (fun _ _ _ _ _ => True) (fun _ U o U' => ∃ v L, o = .returned v ∧ Q v U'.heap L ∧ FrameEnd U o U' L rm.cells rm.slots)
def own_MetL (l : Launch) (Z : State) (as : Array Value) (h : Heap) (Q : Option Value → Heap → List Loc → Prop) : Prop :=
  MetFree l x (head1 (Jvm.Cond.code x code maxLocals ret :: tables_1) room_1) (fun a U => a = as ∧ Z.Warmed39 U.vm ∧ U.heap = h) (fun _ _ _ _ _ => True) (fun _ U o U' => ∃ v L, o = .returned v ∧ Q v U'.heap L ∧ FrameEnd U o U' L room_1.cells room_1.slots)
theorem own_pays {l : Launch} {Z : State} {p : Program} {e : Env} {R : Room} {s : State} {args : Array Value} {below : List Frame} {a0 : Array Value} {h : Heap} {y : MethodName} {bytes : ByteArray} {maxL : Nat} {rt : Option FieldType} {rm : Room} {len W : Nat} {as' : Array Value} {Q : Option Value → Heap → List Loc → Prop}
    (hM : own_Met l Z y bytes maxL rt rm as' h Q) (hZ : Z.Warmed39 s.vm) (wc : (Jvm.Cond.code y bytes maxL rt).before a0 Z = true) (wz : (Jvm.Cond.initialized y.cls).before a0 Z = true) (hf : rm.frames + 1 ≤ R.frames) (hl : W + (maxL + 11) + rm.locals ≤ R.locals) :
    Back l R p e below s args y len W (fun A a => a = as' ∧ A.U.heap = h ∧ A.cells + rm.cells ≤ R.cells ∧ A.slots + rm.slots ≤ R.slots)
      (fun A _ v B => ∃ L, Q v B.U.heap L ∧ B.locs = A.locs ++ L ∧ B.cells = A.cells + rm.cells ∧ B.slots = A.slots + rm.slots) :=
  backOf hM hZ wc wz hf hl
section OwnSteps
variable {p : Program} {l : Launch} {e : Env} {R : Room} {s : State} {m : MethodId} {args : Array Value} {below : List Frame} {meth : Method} {c : Code} {T : State} {locs : List Loc} {cells slots : Nat} {h : Heap} {G : Outcome → State → Prop} {t t' : State} {Q : Option Value → Heap → List Loc → Prop} {C S pc : Nat} {Ls : Array Slot} {rest : List Value}
theorem own_go (k : Steps p.tables e below t t') (r : own_Go p e below G t') : own_Go p e below G t := by
  obtain ⟨s₂, o, h1, h2⟩ := r
  exact ⟨s₂, o, k.trans h1, h2⟩
theorem own_ret (X : Stand p l e R s m args below meth c T locs cells slots) (hx : p.tables.exec = Jvm.exec) (hlk : meth.locks = false) (eT : T.heap = h) {w : Value} {ty : FieldType} {i : Instr} (hret : meth.sig.returnType = some ty) (hn : narrow ty w = w)
    (hi : (i = .ireturn ∧ (ty = .int ∨ ty = .boolean ∨ ty = .byte ∨ ty = .char ∨ ty = .short) ∧ ∃ z, w = .int z) ∨ (i = .lreturn ∧ ty = .long ∧ ∃ z, w = .long z) ∨ (i = .dreturn ∧ ty = .double ∧ ∃ z, w = .double z) ∨ (i = .freturn ∧ ty = .float ∧ ∃ z, w = .float z) ∨ (i = .areturn ∧ ty.isReference = true ∧ w.isRef = true))
    (hd : decode c.code pc = .ok (i, 1)) (hQ : Q (some w) h locs) (hc : cells ≤ C) (hs : slots ≤ S) : own_Go p e below (own_G s Q C S) (T.setTop (mkF m pc Ls (w :: rest))) := by
  obtain ⟨fs, hr, hrun, hended, hW, hsame⟩ := X.leave (v := some w) (fun q => by rw [hret] at q; cases q)
  exact ⟨_, _, retOut X hx hret hn hi hd hr, hrun, hended, _, _, rfl, by show Q _ T.heap _; rw [eT]; exact hQ, ⟨_, rfl⟩, hW, hsame.mono hc hs⟩
theorem own_retI (X : Stand p l e R s m args below meth c T locs cells slots) (hx : p.tables.exec = Jvm.exec) (hlk : meth.locks = false) (eT : T.heap = h) {z : Int32} (hret : meth.sig.returnType = some .int) (hd : decode c.code pc = .ok (.ireturn, 1)) (hQ : Q (some (.int z)) h locs) (hc : cells ≤ C) (hs : slots ≤ S) : own_Go p e below (own_G s Q C S) (T.setTop (mkF m pc Ls (.int z :: rest))) :=
  own_ret X hx hlk eT hret rfl (Or.inl ⟨rfl, Or.inl rfl, z, rfl⟩) hd hQ hc hs
theorem own_retZ (X : Stand p l e R s m args below meth c T locs cells slots) (hx : p.tables.exec = Jvm.exec) (hlk : meth.locks = false) (eT : T.heap = h) {z : Int32} (hret : meth.sig.returnType = some .boolean) (hd : decode c.code pc = .ok (.ireturn, 1)) (hz : z = 0 ∨ z = 1) (hQ : Q (some (.int z)) h locs) (hc : cells ≤ C) (hs : slots ≤ S) : own_Go p e below (own_G s Q C S) (T.setTop (mkF m pc Ls (.int z :: rest))) :=
  own_ret X hx hlk eT hret (by rcases hz with rfl | rfl <;> rfl) (Or.inl ⟨rfl, Or.inr (Or.inl rfl), z, rfl⟩) hd hQ hc hs
theorem own_retJ (X : Stand p l e R s m args below meth c T locs cells slots) (hx : p.tables.exec = Jvm.exec) (hlk : meth.locks = false) (eT : T.heap = h) {z : Int64} (hret : meth.sig.returnType = some .long) (hd : decode c.code pc = .ok (.lreturn, 1)) (hQ : Q (some (.long z)) h locs) (hc : cells ≤ C) (hs : slots ≤ S) : own_Go p e below (own_G s Q C S) (T.setTop (mkF m pc Ls (.long z :: rest))) :=
  own_ret X hx hlk eT hret rfl (Or.inr (Or.inl ⟨rfl, rfl, z, rfl⟩)) hd hQ hc hs
theorem own_retA (X : Stand p l e R s m args below meth c T locs cells slots) (hx : p.tables.exec = Jvm.exec) (hlk : meth.locks = false) (eT : T.heap = h) {a : Addr} {ty : FieldType} (hret : meth.sig.returnType = some ty) (ht : ty.isReference = true) (hd : decode c.code pc = .ok (.areturn, 1)) (hQ : Q (some (.ref a)) h locs) (hc : cells ≤ C) (hs : slots ≤ S) : own_Go p e below (own_G s Q C S) (T.setTop (mkF m pc Ls (.ref a :: rest))) :=
  own_ret X hx hlk eT hret (by cases ty <;> first | rfl | cases ht) (Or.inr (Or.inr (Or.inr (Or.inr ⟨rfl, ht, rfl⟩)))) hd hQ hc hs
theorem own_retV (X : Stand p l e R s m args below meth c T locs cells slots) (hx : p.tables.exec = Jvm.exec) (hlk : meth.locks = false) (eT : T.heap = h) (hret : meth.sig.returnType = none) (hd : decode c.code pc = .ok (.return_, 1)) (hQ : Q none h locs) (hc : cells ≤ C) (hs : slots ≤ S) : own_Go p e below (own_G s Q C S) (T.setTop (mkF m pc Ls [])) := by
  obtain ⟨fs, hr, hrun, hended, hW, hsame⟩ := X.leave (v := none) (fun _ => rfl)
  exact ⟨_, _, X.returnOut hx hret hd hr, hrun, hended, _, _, rfl, by show Q _ T.heap _; rw [eT]; exact hQ, ⟨_, rfl⟩, hW, hsame.mono hc hs⟩
end OwnSteps
def own_b (P : Prop) [Decidable P] : Int32 := if P then 1 else 0
theorem own_b_t {P : Prop} [Decidable P] (h : P) : own_b P = 1 := if_pos h
theorem own_b_f {P : Prop} [Decidable P] (h : ¬ P) : own_b P = 0 := if_neg h
theorem own_b_nz {P : Prop} [Decidable P] (h : P) : ¬ own_b P = 0 := by rw [own_b_t h]; decide
theorem own_b_01 (P : Prop) [Decidable P] : own_b P = 0 ∨ own_b P = 1 := by
  by_cases h : P
  · exact Or.inr (own_b_t h)
  · exact Or.inl (own_b_f h)
theorem own_tltJ {x y : Int64} (h : x < y) : ifCond.holds .lt (lcmpW x y) = true ∧ ifCond.holds .ge (lcmpW x y) = false := by
  have q := tlt (show lcmpW x y < 0 by rw [lcW]; exact (lc_lt x y).mpr h)
  exact ⟨(if0 _ _).trans q.1, (if0 _ _).trans q.2.1⟩
theorem own_fltJ {x y : Int64} (h : ¬ x < y) : ifCond.holds .lt (lcmpW x y) = false ∧ ifCond.holds .ge (lcmpW x y) = true := by
  have q := flt (show ¬ lcmpW x y < 0 by rw [lcW]; exact fun z => h ((lc_lt x y).mp z))
  exact ⟨(if0 _ _).trans q.1, (if0 _ _).trans q.2.1⟩
theorem own_tgtJ {x y : Int64} (h : y < x) : ifCond.holds .gt (lcmpW x y) = true ∧ ifCond.holds .le (lcmpW x y) = false := by
  have q := tlt (show 0 < lcmpW x y by rw [lcW]; exact (lc_gt x y).mpr h)
  exact ⟨(if0 _ _).trans q.2.2.1, (if0 _ _).trans q.2.2.2⟩
theorem own_fgtJ {x y : Int64} (h : ¬ y < x) : ifCond.holds .gt (lcmpW x y) = false ∧ ifCond.holds .le (lcmpW x y) = true := by
  have q := flt (show ¬ 0 < lcmpW x y by rw [lcW]; exact fun z => h ((lc_gt x y).mp z))
  exact ⟨(if0 _ _).trans q.2.2.1, (if0 _ _).trans q.2.2.2⟩
theorem own_teqJ {x y : Int64} (h : x = y) : ifCond.holds .eq (lcmpW x y) = true ∧ ifCond.holds .ne (lcmpW x y) = false := by
  have q := teq (show lcmpW x y = 0 by rw [lcW]; exact (lc_eq x y).mpr h)
  exact ⟨(if0 _ _).trans q.1, (if0 _ _).trans q.2⟩
theorem own_feqJ {x y : Int64} (h : ¬ x = y) : ifCond.holds .eq (lcmpW x y) = false ∧ ifCond.holds .ne (lcmpW x y) = true := by
  have q := feq (show ¬ lcmpW x y = 0 by rw [lcW]; exact fun z => h ((lc_eq x y).mp z))
  exact ⟨(if0 _ _).trans q.1, (if0 _ _).trans q.2⟩
section OwnHeap
variable {p : Program} {l : Launch} {e : Env} {R : Room} {s : State} {m : MethodId} {args : Array Value} {below : List Frame} {meth : Method} {c : Code} {T : State} {locs : List Loc} {cells slots : Nat} {Z : State} {a0 : Array Value} {h : Heap} {a : Addr} {k : ClassId} {n j : Int32} {vs : List Value} {dv : Value} {g : JFrame} {rest : List Value}
theorem own_newP (X : Stand p l e R s m args below meth c T locs cells slots) (hx : p.tables.exec = Jvm.exec) (hZ : Z.Warmed39 s.vm) {aty : ArrayType} (w : (Cond.arrayClass (newarray.typeOf aty)).before a0 Z = true) (eT : T.heap = h) (hg : g.method = m) (hd : decode c.code g.pc = .ok (.newarray aty, 2)) (hs : g.stack = .int n :: rest)
    (hn : ¬ n < 0) {cap : Nat} (hcap : n.toNatClampNeg ≤ cap) (hb : cap * 8 ≤ 536870912) (hc : cells + 1 ≤ R.cells) (hl : slots + cap ≤ R.slots) :
    ∃ T' h' cA a, a = h.size ∧ Stand p l e R s m args below meth c T' locs (cells + 1) (slots + cap) ∧ T'.heap = h' ∧ Ext h h' ∧ Arv Z h' a cA (newarray.typeOf aty) n (List.replicate cap (defaultValue (newarray.typeOf aty))) (defaultValue (newarray.typeOf aty)) ∧
      Steps p.tables e below (T.setTop g) (T'.setTop { g with pc := g.pc + 2, stack := .ref a :: rest }) := by
  obtain ⟨T', h', cA, X', e', E, A, st⟩ := newP X hx hZ w eT hg hd hs hn hcap hb hc hl
  exact ⟨T', h', cA, _, rfl, X', e', E, (Arv.new A hn).pad (pad_rep [] _ cap), st _ (Steps.refl _)⟩
theorem own_newO (X : Stand p l e R s m args below meth c T locs cells slots) (hx : p.tables.exec = Jvm.exec) (hZ : Z.Warmed39 s.vm) {own C : String} {index n : Nat} (hown : s.vm.findClass own = some m.cls) (w : (Cond.classLink own index C).before a0 Z = true) (wi : (Cond.instantiable C n).before a0 Z = true) (wz : (Cond.initialized C).before a0 Z = true) (eT : T.heap = h)
    (hg : g.method = m) (hd : decode c.code g.pc = .ok (.new index, 3)) (hc : cells + 1 ≤ R.cells) (hl : slots + n ≤ R.slots) :
    ∃ T' h' a, a = h.size ∧ Stand p l e R s m args below meth c T' locs (cells + 1) (slots + n) ∧ T'.heap = h' ∧ Ext h h' ∧ Exa Z h' a C ∧ (∀ {O nm d : String} {ty : FieldType}, Laid Z a0 C O nm d → parseFieldDescriptor d = some ty → Fld Z h' a O nm d (defaultValue ty)) ∧
      Steps p.tables e below (T.setTop g) (T'.setTop { g with pc := g.pc + 3, stack := .ref a :: g.stack }) := by
  obtain ⟨T', h', X', e', E, A, D, -, st⟩ := newO X hx hZ hown w wi wz eT hg hd hc hl
  exact ⟨T', h', _, rfl, X', e', E, A, D, st _ (Steps.refl _)⟩
theorem own_stI (X : Stand p l e R s m args below meth c T locs cells slots) (hx : p.tables.exec = Jvm.exec) (hZ : Z.Warmed39 s.vm) (eT : T.heap = h) (F : Arv Z h a k .int n vs dv) (h0 : ¬ j < 0) (h1 : j < n) {x : Int32} (hg : g.method = m) (hs : g.stack = .int x :: .int j :: .ref a :: rest) (hd : decode c.code g.pc = .ok (.iastore, 1)) {i : Nat} (hi : j.toNatClampNeg = i) (hl : i < vs.length) :
    ∃ T' h', Stand p l e R s m args below meth c T' (locs ++ [⟨a, j.toNatClampNeg⟩]) cells slots ∧ T'.heap = h' ∧ Wr h h' a j.toNatClampNeg (.int x) ∧ Arv Z h' a k .int n (vs.set i (.int x)) dv ∧ Steps p.tables e below (T.setTop g) (T'.setTop { g with pc := g.pc + 1, stack := rest }) := by
  obtain ⟨cl, A, q1, S, q3, H, G⟩ := F
  obtain ⟨T', h', X', e', W, st⟩ := stI X hx hZ eT A (inb_of S ⟨h0, h1⟩) hg hs hd
  exact ⟨T', h', X', e', W, Arv.set A q1 S q3 H G rfl W i hi hl, st _ (Steps.refl _)⟩
theorem own_stC (X : Stand p l e R s m args below meth c T locs cells slots) (hx : p.tables.exec = Jvm.exec) (hZ : Z.Warmed39 s.vm) (eT : T.heap = h) (F : Arv Z h a k .char n vs dv) (h0 : ¬ j < 0) (h1 : j < n) {x : Int32} (hg : g.method = m) (hs : g.stack = .int x :: .int j :: .ref a :: rest) (hd : decode c.code g.pc = .ok (.castore, 1)) {i : Nat} (hi : j.toNatClampNeg = i) (hl : i < vs.length) :
    ∃ T' h', Stand p l e R s m args below meth c T' (locs ++ [⟨a, j.toNatClampNeg⟩]) cells slots ∧ T'.heap = h' ∧ Wr h h' a j.toNatClampNeg (.int (nar .char x)) ∧ Arv Z h' a k .char n (vs.set i (.int (nar .char x))) dv ∧ Steps p.tables e below (T.setTop g) (T'.setTop { g with pc := g.pc + 1, stack := rest }) := by
  obtain ⟨cl, A, q1, S, q3, H, G⟩ := F
  obtain ⟨T', h', X', e', W, st⟩ := stC X hx hZ eT A (inb_of S ⟨h0, h1⟩) hg hs hd
  exact ⟨T', h', X', e', W, Arv.set A q1 S q3 H G (fits_nar_char _) W i hi hl, st _ (Steps.refl _)⟩
theorem own_stB (X : Stand p l e R s m args below meth c T locs cells slots) (hx : p.tables.exec = Jvm.exec) (hZ : Z.Warmed39 s.vm) (eT : T.heap = h) (F : Arv Z h a k .byte n vs dv) (h0 : ¬ j < 0) (h1 : j < n) {x : Int32} (hg : g.method = m) (hs : g.stack = .int x :: .int j :: .ref a :: rest) (hd : decode c.code g.pc = .ok (.bastore, 1)) {i : Nat} (hi : j.toNatClampNeg = i) (hl : i < vs.length) :
    ∃ T' h', Stand p l e R s m args below meth c T' (locs ++ [⟨a, j.toNatClampNeg⟩]) cells slots ∧ T'.heap = h' ∧ Wr h h' a j.toNatClampNeg (.int (nar .byte x)) ∧ Arv Z h' a k .byte n (vs.set i (.int (nar .byte x))) dv ∧ Steps p.tables e below (T.setTop g) (T'.setTop { g with pc := g.pc + 1, stack := rest }) := by
  obtain ⟨cl, A, q1, S, q3, H, G⟩ := F
  obtain ⟨T', h', X', e', W, st⟩ := stB X hx hZ eT A (inb_of S ⟨h0, h1⟩) hg hs hd
  exact ⟨T', h', X', e', W, Arv.set A q1 S q3 H G (fits_nar_byte _) W i hi hl, st _ (Steps.refl _)⟩
theorem own_ldI (X : Stand p l e R s m args below meth c T locs cells slots) (hx : p.tables.exec = Jvm.exec) (hZ : Z.Warmed39 s.vm) (eT : T.heap = h) (F : Arv Z h a k .int n vs dv) (h0 : ¬ j < 0) (h1 : j < n) {v : Int32} (hv : vs.getD j.toNatClampNeg dv = .int v) (hg : g.method = m) (hs : g.stack = .int j :: .ref a :: rest) (hd : decode c.code g.pc = .ok (.iaload, 1)) :
    Steps p.tables e below (T.setTop g) (T.setTop { g with pc := g.pc + 1, stack := .int v :: rest }) := by
  obtain ⟨cl, A, q1, S, q3, H, G⟩ := F
  exact X.iaload hx (j := j) (v := .int v) (by rw [eT]; exact A.1) (State.isArrayOf_alike hZ.alike A.2.1) A.2.2 (inb_of S ⟨h0, h1⟩) (H.at (inb_of S ⟨h0, h1⟩) hv) hg hs hd _ (Steps.refl _)
theorem own_ldC (X : Stand p l e R s m args below meth c T locs cells slots) (hx : p.tables.exec = Jvm.exec) (hZ : Z.Warmed39 s.vm) (eT : T.heap = h) (F : Arv Z h a k .char n vs dv) (h0 : ¬ j < 0) (h1 : j < n) {v : Int32} (hv : vs.getD j.toNatClampNeg dv = .int v) (hg : g.method = m) (hs : g.stack = .int j :: .ref a :: rest) (hd : decode c.code g.pc = .ok (.caload, 1)) :
    Steps p.tables e below (T.setTop g) (T.setTop { g with pc := g.pc + 1, stack := .int v :: rest }) := by
  obtain ⟨cl, A, q1, S, q3, H, G⟩ := F
  exact X.caload hx (j := j) (v := .int v) (by rw [eT]; exact A.1) (State.isArrayOf_alike hZ.alike A.2.1) A.2.2 (inb_of S ⟨h0, h1⟩) (H.at (inb_of S ⟨h0, h1⟩) hv) hg hs hd _ (Steps.refl _)
theorem own_ldB (X : Stand p l e R s m args below meth c T locs cells slots) (hx : p.tables.exec = Jvm.exec) (hZ : Z.Warmed39 s.vm) (eT : T.heap = h) (F : Arv Z h a k .byte n vs dv) (h0 : ¬ j < 0) (h1 : j < n) {v : Int32} (hv : vs.getD j.toNatClampNeg dv = .int v) (hg : g.method = m) (hs : g.stack = .int j :: .ref a :: rest) (hd : decode c.code g.pc = .ok (.baload, 1)) :
    Steps p.tables e below (T.setTop g) (T.setTop { g with pc := g.pc + 1, stack := .int v :: rest }) := by
  obtain ⟨cl, A, q1, S, q3, H, G⟩ := F
  exact X.baloadBytes hx (j := j) (v := .int v) (by rw [eT]; exact A.1) (State.isArrayOf_alike hZ.alike A.2.1) A.2.2 (inb_of S ⟨h0, h1⟩) (H.at (inb_of S ⟨h0, h1⟩) hv) hg hs hd _ (Steps.refl _)
theorem own_len {ty : FieldType} (X : Stand p l e R s m args below meth c T locs cells slots) (hx : p.tables.exec = Jvm.exec) (hZ : Z.Warmed39 s.vm) (eT : T.heap = h) (F : Arv Z h a k ty n vs dv) (hg : g.method = m) (hs : g.stack = .ref a :: rest) (hd : decode c.code g.pc = .ok (.arraylength, 1)) :
    Steps p.tables e below (T.setTop g) (T.setTop { g with pc := g.pc + 1, stack := .int n :: rest }) := by
  obtain ⟨cl, A, q1, S, q3, H, G⟩ := F
  have r := X.arraylength hx (by rw [eT]; exact A.1) (State.isArrayOf_alike hZ.alike A.2.1) hg hs hd _ (Steps.refl _)
  rw [len_of S q3] at r
  exact r
theorem own_newPE (X : Stand p l e R s m args below meth c T locs cells slots) (hx : p.tables.exec = Jvm.exec) (hZ : Z.Warmed39 s.vm) {aty : ArrayType} (w : (Cond.arrayClass (newarray.typeOf aty)).before a0 Z = true) (eT : T.heap = h) (hg : g.method = m) (hd : decode c.code g.pc = .ok (.newarray aty, 2)) (hs : g.stack = .int n :: rest)
    (hn : ¬ n < 0) {cap : Nat} (hcap : n.toNatClampNeg ≤ cap) (hb : cap * 8 ≤ 536870912) (hc : cells + 1 ≤ R.cells) (hl : slots + cap ≤ R.slots) {ad : String} (had : "[" ++ (newarray.typeOf aty).toString = ad) :
    ∃ T' h' cA a, a = h.size ∧ Stand p l e R s m args below meth c T' locs (cells + 1) (slots + cap) ∧ T'.heap = h' ∧ Ext h h' ∧ Arv Z h' a cA (newarray.typeOf aty) n (List.replicate cap (defaultValue (newarray.typeOf aty))) (defaultValue (newarray.typeOf aty)) ∧ Exa Z h' a ad ∧
      Steps p.tables e below (T.setTop g) (T'.setTop { g with pc := g.pc + 2, stack := .ref a :: rest }) := by
  obtain ⟨T', h', cA, X', e', E, A, E2, st⟩ := newPE X hx hZ w eT hg hd hs hn hcap hb hc hl had
  exact ⟨T', h', cA, _, rfl, X', e', E, (Arv.new A hn).pad (pad_rep [] _ cap), E2, st _ (Steps.refl _)⟩
theorem own_clone {ty : FieldType} (X : Stand p l e R s m args below meth c T locs cells slots) (hx : p.tables.exec = Jvm.exec) (hZ : Z.Warmed39 s.vm) {own ad : String} {index : Nat} (hown : s.vm.findClass own = some m.cls)
    (w1 : (Cond.methodLink own index ⟨ad, "clone", "()Ljava/lang/Object;"⟩).before a0 Z = true) (w2 : (Cond.sameMethod ad "java/lang/Object" "clone" "()Ljava/lang/Object;").before a0 Z = true) (w3 : (Cond.native ⟨"java/lang/Object", "clone", "()Ljava/lang/Object;"⟩).before a0 Z = true)
    (w4 : (Cond.instanceMethod ⟨"java/lang/Object", "clone", "()Ljava/lang/Object;"⟩).before a0 Z = true) (w5 : (Cond.selects ad ⟨ad, "clone", "()Ljava/lang/Object;"⟩ ⟨"java/lang/Object", "clone", "()Ljava/lang/Object;"⟩).before a0 Z = true) (w6 : (Cond.castable ad "java/lang/Cloneable").before a0 Z = true)
    (eT : T.heap = h) (F : Arv Z h a k ty n vs dv) (E : Exa Z h a ad) (hg : g.method = m) (hsize : g.locals.size = c.maxLocals) (hst : g.stack = .ref a :: rest) (hd : decode c.code g.pc = .ok (.invokevirtual index, 3))
    (hf : 1 ≤ R.frames) {W cap : Nat} (hW : 2 * g.monitorRoom + (rest.map fun v => v.category).sum ≤ W) (hl : W + 14 ≤ R.locals) (hcap : n.toNatClampNeg ≤ cap) (hc : cells + 1 ≤ R.cells) (hsl : slots + cap ≤ R.slots) :
    ∃ T' h' b, b = h.size ∧ Stand p l e R s m args below meth c T' locs (cells + 1) (slots + cap) ∧ T'.heap = h' ∧ Ext h h' ∧ Arv Z h' b k ty n vs dv ∧ Exa Z h' b ad ∧ Steps p.tables e below (T.setTop g) (T'.setTop { g with pc := g.pc + 3, stack := .ref b :: rest }) := by
  obtain ⟨cl, A, q1, S, q3, H, G⟩ := F
  have FC : FitC Z cl := fitC_of A fun i hi v hv => by rw [H i hi] at hv; cases hv; exact G i hi
  obtain ⟨T', h', X', e', ex, A', E', st⟩ := cloneA X hx hZ hown w1 w2 w3 w4 w5 w6 eT A E FC hg hsize hst hd hf hW hl (by rw [S]; exact hcap) hc hsl
  exact ⟨T', h', _, rfl, X', e', ex, ⟨cloneOf cl, A', q1, S, q3, H, G⟩, E', st _ (Steps.refl _)⟩
theorem own_born {h : Heap} {a b : Addr} (q : a < h.size) (r : b = h.size) : a ≠ b := Nat.ne_of_lt (r ▸ q)
end OwnHeap
def own_vs (g : Nat → Int32) : List Value := [.int (g 0), .int (g 1), .int (g 2), .int (g 3)]
def own_upd (g : Nat → Int32) (i : Nat) (x : Int32) : Nat → Int32 := fun k => if k = i then x else g k
def own_fill (P g : Nat → Int32) (i : Nat) : Nat → Int32 → Nat → Int32
  | 0, _ => g
  | n + 1, pr => own_fill P (own_upd g i (P i - pr)) (i + 1) n (P i)
def own_P (a b c d : Int32) (k : Nat) : Int32 := if k = 0 then a else if k = 1 then b else if k = 2 then c else d
def own_gaps (P : Nat → Int32) (f0 f1 f2 f3 : Nat) : Nat → Int32 :=
  own_fill P (own_fill P (own_fill P (own_fill P (fun _ => 0) 0 f0 0) f0 f1 0) (f0 + f1) f2 0) (f0 + f1 + f2) f3 0
def own_exp (i here before c1 c2 c3 : Int32) : Int32 := if i = c1 ∨ i = c2 ∨ i = c3 then here else here - before
theorem own_four {i : Nat} (h : i < 4) : i = 0 ∨ i = 1 ∨ i = 2 ∨ i = 3 := by omega
theorem own_i0 {i : Nat} (h : i < 4) : ¬ Int32.ofNat i < (0 : Int32) := by rcases own_four h with rfl | rfl | rfl | rfl <;> decide
theorem own_i1 {i : Nat} (h : i < 4) : Int32.ofNat i < (4 : Int32) := by rcases own_four h with rfl | rfl | rfl | rfl <;> decide
theorem own_ix {i : Nat} (h : i < 4) : (Int32.ofNat i).toNatClampNeg = i := by rcases own_four h with rfl | rfl | rfl | rfl <;> decide
theorem own_get (g : Nat → Int32) {i : Nat} (h : i < 4) {dv : Value} : (own_vs g).getD (Int32.ofNat i).toNatClampNeg dv = .int (g i) := by
  rw [own_ix h]
  rcases own_four h with rfl | rfl | rfl | rfl <;> rfl
theorem own_set (g : Nat → Int32) {i : Nat} (h : i < 4) (x : Int32) : (own_vs g).set i (.int x) = own_vs (own_upd g i x) := by
  rcases own_four h with rfl | rfl | rfl | rfl <;> rfl
theorem own_lenv (g : Nat → Int32) {i : Nat} (h : i < 4) : i < (own_vs g).length := h
theorem own_lt {i j : Nat} (h : i < j) (hj : j ≤ 4) : Int32.ofNat i < Int32.ofNat j := by
  have e1 : (Int32.ofNat i).toInt = i := Int32.toInt_ofNat_of_lt (by omega)
  have e2 : (Int32.ofNat j).toInt = j := Int32.toInt_ofNat_of_lt (by omega)
  rw [Int32.lt_iff_toInt_lt, e1, e2]; omega
theorem own_nlt (i : Nat) : ¬ Int32.ofNat i < Int32.ofNat i := by rw [Int32.lt_iff_toInt_lt]; omega
theorem own_n1 (i : Nat) : Int32.ofNat i + (1 : Int32) = Int32.ofNat (i + 1) := (Int32.ofNat_add i 1).symm
theorem own_add (i j : Nat) : Int32.ofNat i + Int32.ofNat j = Int32.ofNat (i + j) := (Int32.ofNat_add i j).symm
theorem own_all (P : Nat → Int32) (f0 f1 f2 f3 : Nat) (h : f0 + f1 + f2 + f3 = 4) :
    own_gaps P f0 f1 f2 f3 0 = P 0 ∧ own_gaps P f0 f1 f2 f3 1 = own_exp 1 (P 1) (P 0) (Int32.ofNat f0) (Int32.ofNat (f0 + f1)) (Int32.ofNat (f0 + f1 + f2)) ∧
    own_gaps P f0 f1 f2 f3 2 = own_exp 2 (P 2) (P 1) (Int32.ofNat f0) (Int32.ofNat (f0 + f1)) (Int32.ofNat (f0 + f1 + f2)) ∧
    own_gaps P f0 f1 f2 f3 3 = own_exp 3 (P 3) (P 2) (Int32.ofNat f0) (Int32.ofNat (f0 + f1)) (Int32.ofNat (f0 + f1 + f2)) := by
  have hf3 : f3 = 4 - f0 - f1 - f2 := by omega
  have c0 : f0 = 0 ∨ f0 = 1 ∨ f0 = 2 ∨ f0 = 3 ∨ f0 = 4 := by omega
  have c1 : f1 = 0 ∨ f1 = 1 ∨ f1 = 2 ∨ f1 = 3 ∨ f1 = 4 := by omega
  have c2 : f2 = 0 ∨ f2 = 1 ∨ f2 = 2 ∨ f2 = 3 ∨ f2 = 4 := by omega
  subst hf3
  rcases c0 with rfl | rfl | rfl | rfl | rfl <;> rcases c1 with rfl | rfl | rfl | rfl | rfl <;> (try (exfalso; omega)) <;> rcases c2 with rfl | rfl | rfl | rfl | rfl <;> (try (exfalso; omega)) <;> clear h <;>
    simp [own_gaps, own_fill, own_upd, own_exp]
theorem own_split (x y : Int32) (m : Nat) (hm : 0 < m) (hm2 : m ≤ 5) (hx : 0 ≤ x.toInt) (e : y = Int32.ofNat m) : ∃ n : Nat, n < m ∧ x % y = Int32.ofNat n := by
  have ey : y.toInt = m := by rw [e]; exact Int32.toInt_ofNat_of_lt (by omega)
  have er := Jvm.Kit.i32_rem_nonneg (y := y) hx
  refine ⟨(x.toInt % y.toInt).toNat, ?_, ?_⟩
  · have := Int.emod_lt_of_pos x.toInt (show (0 : Int) < y.toInt by omega)
    have := Int.emod_nonneg x.toInt (show y.toInt ≠ 0 by omega)
    omega
  · have h1 := Int.emod_lt_of_pos x.toInt (show (0 : Int) < y.toInt by omega)
    have h2 := Int.emod_nonneg x.toInt (show y.toInt ≠ 0 by omega)
    apply Int32.toInt_inj.mp
    rw [er, Int32.toInt_ofNat_of_lt (by omega)]
    omega
theorem own_m7 (x : Int32) : 0 ≤ (x &&& (7 : Int32)).toInt := by
  rw [Jvm.Kit.i32_mask x 7 (k := 3) (by decide) (by decide)]; omega
theorem own_sub {i j : Nat} (h : j ≤ i) : Int32.ofNat i - Int32.ofNat j = Int32.ofNat (i - j) := by
  have e : Int32.ofNat i = Int32.ofNat (i - j) + Int32.ofNat j := by rw [own_add, Nat.sub_add_cancel h]
  rw [e, Int32.add_sub_cancel]
theorem own_nz {i : Nat} (h : 0 < i) (h5 : i ≤ 5) : ¬ Int32.ofNat i = (0 : Int32) := by
  intro q
  have e : (Int32.ofNat i).toInt = i := Int32.toInt_ofNat_of_lt (by omega)
  have z : (0 : Int32).toInt = 0 := by decide
  rw [q, z] at e
  omega
theorem own_expected_0 : decode method_3_code 0 = .ok (.iload_n 0, 1) := by decide +kernel
theorem own_expected_1 : decode method_3_code 1 = .ok (.iload_n 3, 1) := by decide +kernel
theorem own_expected_2 : decode method_3_code 2 = .ok (.if_icmp .eq 15, 3) := by decide +kernel
theorem own_expected_5 : decode method_3_code 5 = .ok (.iload_n 0, 1) := by decide +kernel
theorem own_expected_6 : decode method_3_code 6 = .ok (.iload 4, 2) := by decide +kernel
theorem own_expected_8 : decode method_3_code 8 = .ok (.if_icmp .eq 9, 3) := by decide +kernel
theorem own_expected_11 : decode method_3_code 11 = .ok (.iload_n 0, 1) := by decide +kernel
theorem own_expected_12 : decode method_3_code 12 = .ok (.iload 5, 2) := by decide +kernel
theorem own_expected_14 : decode method_3_code 14 = .ok (.if_icmp .ne 7, 3) := by decide +kernel
theorem own_expected_17 : decode method_3_code 17 = .ok (.iconst 1, 1) := by decide +kernel
theorem own_expected_18 : decode method_3_code 18 = .ok (.goto 4, 3) := by decide +kernel
theorem own_expected_21 : decode method_3_code 21 = .ok (.iconst 0, 1) := by decide +kernel
theorem own_expected_22 : decode method_3_code 22 = .ok (.istore 6, 2) := by decide +kernel
theorem own_expected_24 : decode method_3_code 24 = .ok (.iload 6, 2) := by decide +kernel
theorem own_expected_26 : decode method_3_code 26 = .ok (.ifCond .eq 5, 3) := by decide +kernel
theorem own_expected_29 : decode method_3_code 29 = .ok (.iload_n 1, 1) := by decide +kernel
theorem own_expected_30 : decode method_3_code 30 = .ok (.ireturn, 1) := by decide +kernel
theorem own_expected_31 : decode method_3_code 31 = .ok (.iload_n 1, 1) := by decide +kernel
theorem own_expected_32 : decode method_3_code 32 = .ok (.iload_n 2, 1) := by decide +kernel
theorem own_expected_33 : decode method_3_code 33 = .ok (.isub, 1) := by decide +kernel
theorem own_expected_34 : decode method_3_code 34 = .ok (.ireturn, 1) := by decide +kernel
theorem own_f1 : plainName "com/example/lexigap/lexigap/GapsOfPositionsPinLaw" = true := by first | (simp [plainName, overriddenIn]; done) | decide +kernel
theorem own_f2 (m : MethodId) (x0 : Int32) (x1 : Int32) (x2 : Int32) (x3 : Int32) (x4 : Int32) (x5 : Int32) : entryFrame m #[(.int x0), (.int x1), (.int x2), (.int x3), (.int x4), (.int x5)] 7 = mkF m 0 #[.val (.int x0), .val (.int x1), .val (.int x2), .val (.int x3), .val (.int x4), .val (.int x5), .unset] [] := by first | (simp [entryFrame, mkF, argsToLocals, Value.category]; done) | rfl
set_option maxRecDepth 65536 in
set_option maxHeartbeats 40000000 in
theorem rm_exp (l : Launch) (Z : State) (a0 : Array Value) (hw : ∀ d ∈ tables_1, d.before a0 Z = true) (i1 he bf c1 c2 c3 : Int32) (h0 : Heap) (n0 : Nat) (Z0 : n0 ≤ h0.size)  :
    own_Met l Z (⟨"com/example/lexigap/lexigap/GapsOfPositionsPinLaw", "expected", "(IIIIII)I"⟩ : MethodName) method_3_code 7 (some .int) ({ frames := 0, cells := 0, slots := 0, locals := 0 } : Room) #[(.int i1), (.int he), (.int bf), (.int c1), (.int c2), (.int c3)] h0 (fun v h L => v = some (.int (own_exp i1 he bf c1 c2 c3)) ∧ L = [] ∧ h = h0) := by
  refine MetFree.of_bodySF (plainFor_of_name own_f1) hisR ?_
  intro p e s m args below meth c s₁ Bd hml0 hP hK
  obtain ⟨rfl, hZ, hh⟩ := hP
  have hx := Bd.exec
  have hby := Bd.bytes
  have hlk : meth.locks = false := Bd.notSynchronized
  have hml : c.maxLocals = 7 := hml0
  have hown : s.vm.findClass "com/example/lexigap/lexigap/GapsOfPositionsPinLaw" = some m.cls := findClass_of_methodNamed Bd.named
  have hnm := (name_of_methodNamed Bd.named Bd.method).1
  have X0 : Stand p l e ({ frames := 0, cells := 0, slots := 0, locals := 0 } : Room) s m #[(.int i1), (.int he), (.int bf), (.int c1), (.int c2), (.int c3)] below meth c s₁ [] 0 0 := Stand.of_body Bd
  have e0 : s₁.heap = h0 := by rw [← hh, Bd.state]; rfl
  show own_Go p e below (own_G s (fun v h L => v = some (.int (own_exp i1 he bf c1 c2 c3)) ∧ L = [] ∧ h = h0) 0 0) (s₁.setTop (entryFrame m #[(.int i1), (.int he), (.int bf), (.int c1), (.int c2), (.int c3)] 7))
  rw [own_f2]
  show own_Go p e below _ (s₁.setTop (mkF m 0 #[.val (.int i1), .val (.int he), .val (.int bf), .val (.int c1), .val (.int c2), .val (.int c3), .unset] []))
  refine own_go (XS.iloadN X0.here hx rfl (hb hby own_expected_0) rfl (Steps.refl _)) ?_
  show own_Go p e below _ (s₁.setTop (mkF m 1 #[.val (.int i1), .val (.int he), .val (.int bf), .val (.int c1), .val (.int c2), .val (.int c3), .unset] [(.int i1)]))
  refine own_go (XS.iloadN X0.here hx rfl (hb hby own_expected_1) rfl (Steps.refl _)) ?_
  show own_Go p e below _ (s₁.setTop (mkF m 2 #[.val (.int i1), .val (.int he), .val (.int bf), .val (.int c1), .val (.int c2), .val (.int c3), .unset] [(.int c1), (.int i1)]))
  by_cases hc2 : i1 = c1
  · refine own_go (XS.icmpYes X0.here hx rfl (pc0 := 2) (pc' := 17) rfl (hb hby own_expected_2) rfl (teq hc2).1 (by decide) (by decide) (Steps.refl _)) ?_
    show own_Go p e below _ (s₁.setTop (mkF m 17 #[.val (.int i1), .val (.int he), .val (.int bf), .val (.int c1), .val (.int c2), .val (.int c3), .unset] []))
    refine own_go (XS.iconst X0.here hx rfl (hb hby own_expected_17) (Steps.refl _)) ?_
    show own_Go p e below _ (s₁.setTop (mkF m 18 #[.val (.int i1), .val (.int he), .val (.int bf), .val (.int c1), .val (.int c2), .val (.int c3), .unset] [(.int (1 : Int32))]))
    refine own_go (XS.goto X0.here hx rfl (pc0 := 18) (pc' := 22) rfl (hb hby own_expected_18) (by decide) (by decide) (Steps.refl _)) ?_
    show own_Go p e below _ (s₁.setTop (mkF m 22 #[.val (.int i1), .val (.int he), .val (.int bf), .val (.int c1), .val (.int c2), .val (.int c3), .unset] [(.int (1 : Int32))]))
    refine own_go (XS.istore X0.here hx rfl (hb hby own_expected_22) rfl (l' := #[.val (.int i1), .val (.int he), .val (.int bf), .val (.int c1), .val (.int c2), .val (.int c3), .val (.int (1 : Int32))]) rfl (Steps.refl _)) ?_
    show own_Go p e below _ (s₁.setTop (mkF m 24 #[.val (.int i1), .val (.int he), .val (.int bf), .val (.int c1), .val (.int c2), .val (.int c3), .val (.int (1 : Int32))] []))
    refine own_go (XS.iload X0.here hx rfl (hb hby own_expected_24) rfl (Steps.refl _)) ?_
    show own_Go p e below _ (s₁.setTop (mkF m 26 #[.val (.int i1), .val (.int he), .val (.int bf), .val (.int c1), .val (.int c2), .val (.int c3), .val (.int (1 : Int32))] [(.int (1 : Int32))]))
    refine own_go (XS.ifNo X0.here hx rfl (hb hby own_expected_26) rfl ((if0 _ _).trans (feq (by decide : ¬ ((1 : Int32) = (0 : Int32)))).1) (Steps.refl _)) ?_
    show own_Go p e below _ (s₁.setTop (mkF m 29 #[.val (.int i1), .val (.int he), .val (.int bf), .val (.int c1), .val (.int c2), .val (.int c3), .val (.int (1 : Int32))] []))
    refine own_go (XS.iloadN X0.here hx rfl (hb hby own_expected_29) rfl (Steps.refl _)) ?_
    show own_Go p e below _ (s₁.setTop (mkF m 30 #[.val (.int i1), .val (.int he), .val (.int bf), .val (.int c1), .val (.int c2), .val (.int c3), .val (.int (1 : Int32))] [(.int he)]))
    exact own_retI X0 hx hlk e0 Bd.returns (hb hby own_expected_30) ⟨congrArg (fun u => some (Value.int u)) (by simp [own_exp, hc2]), rfl, rfl⟩ (by decide) (by decide)
  · refine own_go (XS.icmpNo X0.here hx rfl (hb hby own_expected_2) rfl (feq hc2).1 (Steps.refl _)) ?_
    show own_Go p e below _ (s₁.setTop (mkF m 5 #[.val (.int i1), .val (.int he), .val (.int bf), .val (.int c1), .val (.int c2), .val (.int c3), .unset] []))
    refine own_go (XS.iloadN X0.here hx rfl (hb hby own_expected_5) rfl (Steps.refl _)) ?_
    show own_Go p e below _ (s₁.setTop (mkF m 6 #[.val (.int i1), .val (.int he), .val (.int bf), .val (.int c1), .val (.int c2), .val (.int c3), .unset] [(.int i1)]))
    refine own_go (XS.iload X0.here hx rfl (hb hby own_expected_6) rfl (Steps.refl _)) ?_
    show own_Go p e below _ (s₁.setTop (mkF m 8 #[.val (.int i1), .val (.int he), .val (.int bf), .val (.int c1), .val (.int c2), .val (.int c3), .unset] [(.int c2), (.int i1)]))
    by_cases hc8 : i1 = c2
    · refine own_go (XS.icmpYes X0.here hx rfl (pc0 := 8) (pc' := 17) rfl (hb hby own_expected_8) rfl (teq hc8).1 (by decide) (by decide) (Steps.refl _)) ?_
      show own_Go p e below _ (s₁.setTop (mkF m 17 #[.val (.int i1), .val (.int he), .val (.int bf), .val (.int c1), .val (.int c2), .val (.int c3), .unset] []))
      refine own_go (XS.iconst X0.here hx rfl (hb hby own_expected_17) (Steps.refl _)) ?_
      show own_Go p e below _ (s₁.setTop (mkF m 18 #[.val (.int i1), .val (.int he), .val (.int bf), .val (.int c1), .val (.int c2), .val (.int c3), .unset] [(.int (1 : Int32))]))
      refine own_go (XS.goto X0.here hx rfl (pc0 := 18) (pc' := 22) rfl (hb hby own_expected_18) (by decide) (by decide) (Steps.refl _)) ?_
      show own_Go p e below _ (s₁.setTop (mkF m 22 #[.val (.int i1), .val (.int he), .val (.int bf), .val (.int c1), .val (.int c2), .val (.int c3), .unset] [(.int (1 : Int32))]))
      refine own_go (XS.istore X0.here hx rfl (hb hby own_expected_22) rfl (l' := #[.val (.int i1), .val (.int he), .val (.int bf), .val (.int c1), .val (.int c2), .val (.int c3), .val (.int (1 : Int32))]) rfl (Steps.refl _)) ?_
      show own_Go p e below _ (s₁.setTop (mkF m 24 #[.val (.int i1), .val (.int he), .val (.int bf), .val (.int c1), .val (.int c2), .val (.int c3), .val (.int (1 : Int32))] []))
      refine own_go (XS.iload X0.here hx rfl (hb hby own_expected_24) rfl (Steps.refl _)) ?_
      show own_Go p e below _ (s₁.setTop (mkF m 26 #[.val (.int i1), .val (.int he), .val (.int bf), .val (.int c1), .val (.int c2), .val (.int c3), .val (.int (1 : Int32))] [(.int (1 : Int32))]))
      refine own_go (XS.ifNo X0.here hx rfl (hb hby own_expected_26) rfl ((if0 _ _).trans (feq (by decide : ¬ ((1 : Int32) = (0 : Int32)))).1) (Steps.refl _)) ?_
      show own_Go p e below _ (s₁.setTop (mkF m 29 #[.val (.int i1), .val (.int he), .val (.int bf), .val (.int c1), .val (.int c2), .val (.int c3), .val (.int (1 : Int32))] []))
      refine own_go (XS.iloadN X0.here hx rfl (hb hby own_expected_29) rfl (Steps.refl _)) ?_
      show own_Go p e below _ (s₁.setTop (mkF m 30 #[.val (.int i1), .val (.int he), .val (.int bf), .val (.int c1), .val (.int c2), .val (.int c3), .val (.int (1 : Int32))] [(.int he)]))
      exact own_retI X0 hx hlk e0 Bd.returns (hb hby own_expected_30) ⟨congrArg (fun u => some (Value.int u)) (by simp [own_exp, hc2, hc8]), rfl, rfl⟩ (by decide) (by decide)
    · refine own_go (XS.icmpNo X0.here hx rfl (hb hby own_expected_8) rfl (feq hc8).1 (Steps.refl _)) ?_
      show own_Go p e below _ (s₁.setTop (mkF m 11 #[.val (.int i1), .val (.int he), .val (.int bf), .val (.int c1), .val (.int c2), .val (.int c3), .unset] []))
      refine own_go (XS.iloadN X0.here hx rfl (hb hby own_expected_11) rfl (Steps.refl _)) ?_
      show own_Go p e below _ (s₁.setTop (mkF m 12 #[.val (.int i1), .val (.int he), .val (.int bf), .val (.int c1), .val (.int c2), .val (.int c3), .unset] [(.int i1)]))
      refine own_go (XS.iload X0.here hx rfl (hb hby own_expected_12) rfl (Steps.refl _)) ?_
      show own_Go p e below _ (s₁.setTop (mkF m 14 #[.val (.int i1), .val (.int he), .val (.int bf), .val (.int c1), .val (.int c2), .val (.int c3), .unset] [(.int c3), (.int i1)]))
      by_cases hc14 : i1 = c3
      · refine own_go (XS.icmpNo X0.here hx rfl (hb hby own_expected_14) rfl (teq hc14).2 (Steps.refl _)) ?_
        show own_Go p e below _ (s₁.setTop (mkF m 17 #[.val (.int i1), .val (.int he), .val (.int bf), .val (.int c1), .val (.int c2), .val (.int c3), .unset] []))
        refine own_go (XS.iconst X0.here hx rfl (hb hby own_expected_17) (Steps.refl _)) ?_
        show own_Go p e below _ (s₁.setTop (mkF m 18 #[.val (.int i1), .val (.int he), .val (.int bf), .val (.int c1), .val (.int c2), .val (.int c3), .unset] [(.int (1 : Int32))]))
        refine own_go (XS.goto X0.here hx rfl (pc0 := 18) (pc' := 22) rfl (hb hby own_expected_18) (by decide) (by decide) (Steps.refl _)) ?_
        show own_Go p e below _ (s₁.setTop (mkF m 22 #[.val (.int i1), .val (.int he), .val (.int bf), .val (.int c1), .val (.int c2), .val (.int c3), .unset] [(.int (1 : Int32))]))
        refine own_go (XS.istore X0.here hx rfl (hb hby own_expected_22) rfl (l' := #[.val (.int i1), .val (.int he), .val (.int bf), .val (.int c1), .val (.int c2), .val (.int c3), .val (.int (1 : Int32))]) rfl (Steps.refl _)) ?_
        show own_Go p e below _ (s₁.setTop (mkF m 24 #[.val (.int i1), .val (.int he), .val (.int bf), .val (.int c1), .val (.int c2), .val (.int c3), .val (.int (1 : Int32))] []))
        refine own_go (XS.iload X0.here hx rfl (hb hby own_expected_24) rfl (Steps.refl _)) ?_
        show own_Go p e below _ (s₁.setTop (mkF m 26 #[.val (.int i1), .val (.int he), .val (.int bf), .val (.int c1), .val (.int c2), .val (.int c3), .val (.int (1 : Int32))] [(.int (1 : Int32))]))
        refine own_go (XS.ifNo X0.here hx rfl (hb hby own_expected_26) rfl ((if0 _ _).trans (feq (by decide : ¬ ((1 : Int32) = (0 : Int32)))).1) (Steps.refl _)) ?_
        show own_Go p e below _ (s₁.setTop (mkF m 29 #[.val (.int i1), .val (.int he), .val (.int bf), .val (.int c1), .val (.int c2), .val (.int c3), .val (.int (1 : Int32))] []))
        refine own_go (XS.iloadN X0.here hx rfl (hb hby own_expected_29) rfl (Steps.refl _)) ?_
        show own_Go p e below _ (s₁.setTop (mkF m 30 #[.val (.int i1), .val (.int he), .val (.int bf), .val (.int c1), .val (.int c2), .val (.int c3), .val (.int (1 : Int32))] [(.int he)]))
        exact own_retI X0 hx hlk e0 Bd.returns (hb hby own_expected_30) ⟨congrArg (fun u => some (Value.int u)) (by simp [own_exp, hc2, hc8, hc14]), rfl, rfl⟩ (by decide) (by decide)
      · refine own_go (XS.icmpYes X0.here hx rfl (pc0 := 14) (pc' := 21) rfl (hb hby own_expected_14) rfl (feq hc14).2 (by decide) (by decide) (Steps.refl _)) ?_
        show own_Go p e below _ (s₁.setTop (mkF m 21 #[.val (.int i1), .val (.int he), .val (.int bf), .val (.int c1), .val (.int c2), .val (.int c3), .unset] []))
        refine own_go (XS.iconst X0.here hx rfl (hb hby own_expected_21) (Steps.refl _)) ?_
        show own_Go p e below _ (s₁.setTop (mkF m 22 #[.val (.int i1), .val (.int he), .val (.int bf), .val (.int c1), .val (.int c2), .val (.int c3), .unset] [(.int (0 : Int32))]))
        refine own_go (XS.istore X0.here hx rfl (hb hby own_expected_22) rfl (l' := #[.val (.int i1), .val (.int he), .val (.int bf), .val (.int c1), .val (.int c2), .val (.int c3), .val (.int (0 : Int32))]) rfl (Steps.refl _)) ?_
        show own_Go p e below _ (s₁.setTop (mkF m 24 #[.val (.int i1), .val (.int he), .val (.int bf), .val (.int c1), .val (.int c2), .val (.int c3), .val (.int (0 : Int32))] []))
        refine own_go (XS.iload X0.here hx rfl (hb hby own_expected_24) rfl (Steps.refl _)) ?_
        show own_Go p e below _ (s₁.setTop (mkF m 26 #[.val (.int i1), .val (.int he), .val (.int bf), .val (.int c1), .val (.int c2), .val (.int c3), .val (.int (0 : Int32))] [(.int (0 : Int32))]))
        refine own_go (XS.ifYes X0.here hx rfl (pc0 := 26) (pc' := 31) rfl (hb hby own_expected_26) rfl ((if0 _ _).trans (teq (by decide : ((0 : Int32) = (0 : Int32)))).1) (by decide) (by decide) (Steps.refl _)) ?_
        show own_Go p e below _ (s₁.setTop (mkF m 31 #[.val (.int i1), .val (.int he), .val (.int bf), .val (.int c1), .val (.int c2), .val (.int c3), .val (.int (0 : Int32))] []))
        refine own_go (XS.iloadN X0.here hx rfl (hb hby own_expected_31) rfl (Steps.refl _)) ?_
        show own_Go p e below _ (s₁.setTop (mkF m 32 #[.val (.int i1), .val (.int he), .val (.int bf), .val (.int c1), .val (.int c2), .val (.int c3), .val (.int (0 : Int32))] [(.int he)]))
        refine own_go (XS.iloadN X0.here hx rfl (hb hby own_expected_32) rfl (Steps.refl _)) ?_
        show own_Go p e below _ (s₁.setTop (mkF m 33 #[.val (.int i1), .val (.int he), .val (.int bf), .val (.int c1), .val (.int c2), .val (.int c3), .val (.int (0 : Int32))] [(.int bf), (.int he)]))
        refine own_go (XS.isub X0.here hx rfl (hb hby own_expected_33) rfl (Steps.refl _)) ?_
        show own_Go p e below _ (s₁.setTop (mkF m 34 #[.val (.int i1), .val (.int he), .val (.int bf), .val (.int c1), .val (.int c2), .val (.int c3), .val (.int (0 : Int32))] [(.int (he - bf))]))
        exact own_retI X0 hx hlk e0 Bd.returns (hb hby own_expected_34) ⟨congrArg (fun u => some (Value.int u)) (by simp [own_exp, hc2, hc8, hc14]), rfl, rfl⟩ (by decide) (by decide)
theorem own_ofPositions_0 : decode prog_78_method_4_code 0 = .ok (.aload_n 0, 1) := by decide +kernel
theorem own_ofPositions_1 : decode prog_78_method_4_code 1 = .ok (.arraylength, 1) := by decide +kernel
theorem own_ofPositions_2 : decode prog_78_method_4_code 2 = .ok (.newarray .int, 2) := by decide +kernel
theorem own_ofPositions_4 : decode prog_78_method_4_code 4 = .ok (.astore_n 2, 1) := by decide +kernel
theorem own_ofPositions_5 : decode prog_78_method_4_code 5 = .ok (.iconst 0, 1) := by decide +kernel
theorem own_ofPositions_6 : decode prog_78_method_4_code 6 = .ok (.istore_n 3, 1) := by decide +kernel
theorem own_ofPositions_7 : decode prog_78_method_4_code 7 = .ok (.aload_n 1, 1) := by decide +kernel
theorem own_ofPositions_8 : decode prog_78_method_4_code 8 = .ok (.astore 4, 2) := by decide +kernel
theorem own_ofPositions_10 : decode prog_78_method_4_code 10 = .ok (.aload 4, 2) := by decide +kernel
theorem own_ofPositions_12 : decode prog_78_method_4_code 12 = .ok (.arraylength, 1) := by decide +kernel
theorem own_ofPositions_13 : decode prog_78_method_4_code 13 = .ok (.istore 5, 2) := by decide +kernel
theorem own_ofPositions_15 : decode prog_78_method_4_code 15 = .ok (.iconst 0, 1) := by decide +kernel
theorem own_ofPositions_16 : decode prog_78_method_4_code 16 = .ok (.istore 6, 2) := by decide +kernel
theorem own_ofPositions_18 : decode prog_78_method_4_code 18 = .ok (.iload 6, 2) := by decide +kernel
theorem own_ofPositions_20 : decode prog_78_method_4_code 20 = .ok (.iload 5, 2) := by decide +kernel
theorem own_ofPositions_22 : decode prog_78_method_4_code 22 = .ok (.if_icmp .ge 51, 3) := by decide +kernel
theorem own_ofPositions_25 : decode prog_78_method_4_code 25 = .ok (.aload 4, 2) := by decide +kernel
theorem own_ofPositions_27 : decode prog_78_method_4_code 27 = .ok (.iload 6, 2) := by decide +kernel
theorem own_ofPositions_29 : decode prog_78_method_4_code 29 = .ok (.iaload, 1) := by decide +kernel
theorem own_ofPositions_30 : decode prog_78_method_4_code 30 = .ok (.istore 7, 2) := by decide +kernel
theorem own_ofPositions_32 : decode prog_78_method_4_code 32 = .ok (.iconst 0, 1) := by decide +kernel
theorem own_ofPositions_33 : decode prog_78_method_4_code 33 = .ok (.istore 8, 2) := by decide +kernel
theorem own_ofPositions_35 : decode prog_78_method_4_code 35 = .ok (.iload_n 3, 1) := by decide +kernel
theorem own_ofPositions_36 : decode prog_78_method_4_code 36 = .ok (.iload 7, 2) := by decide +kernel
theorem own_ofPositions_38 : decode prog_78_method_4_code 38 = .ok (.iadd, 1) := by decide +kernel
theorem own_ofPositions_39 : decode prog_78_method_4_code 39 = .ok (.istore 9, 2) := by decide +kernel
theorem own_ofPositions_41 : decode prog_78_method_4_code 41 = .ok (.iload_n 3, 1) := by decide +kernel
theorem own_ofPositions_42 : decode prog_78_method_4_code 42 = .ok (.iload 9, 2) := by decide +kernel
theorem own_ofPositions_44 : decode prog_78_method_4_code 44 = .ok (.if_icmp .ge 23, 3) := by decide +kernel
theorem own_ofPositions_47 : decode prog_78_method_4_code 47 = .ok (.aload_n 2, 1) := by decide +kernel
theorem own_ofPositions_48 : decode prog_78_method_4_code 48 = .ok (.iload_n 3, 1) := by decide +kernel
theorem own_ofPositions_49 : decode prog_78_method_4_code 49 = .ok (.aload_n 0, 1) := by decide +kernel
theorem own_ofPositions_50 : decode prog_78_method_4_code 50 = .ok (.iload_n 3, 1) := by decide +kernel
theorem own_ofPositions_51 : decode prog_78_method_4_code 51 = .ok (.iaload, 1) := by decide +kernel
theorem own_ofPositions_52 : decode prog_78_method_4_code 52 = .ok (.iload 8, 2) := by decide +kernel
theorem own_ofPositions_54 : decode prog_78_method_4_code 54 = .ok (.isub, 1) := by decide +kernel
theorem own_ofPositions_55 : decode prog_78_method_4_code 55 = .ok (.iastore, 1) := by decide +kernel
theorem own_ofPositions_56 : decode prog_78_method_4_code 56 = .ok (.aload_n 0, 1) := by decide +kernel
theorem own_ofPositions_57 : decode prog_78_method_4_code 57 = .ok (.iload_n 3, 1) := by decide +kernel
theorem own_ofPositions_58 : decode prog_78_method_4_code 58 = .ok (.iaload, 1) := by decide +kernel
theorem own_ofPositions_59 : decode prog_78_method_4_code 59 = .ok (.istore 8, 2) := by decide +kernel
theorem own_ofPositions_61 : decode prog_78_method_4_code 61 = .ok (.iinc 3 1, 3) := by decide +kernel
theorem own_ofPositions_64 : decode prog_78_method_4_code 64 = .ok (.goto (-23), 3) := by decide +kernel
theorem own_ofPositions_67 : decode prog_78_method_4_code 67 = .ok (.iinc 6 1, 3) := by decide +kernel
theorem own_ofPositions_70 : decode prog_78_method_4_code 70 = .ok (.goto (-52), 3) := by decide +kernel
theorem own_ofPositions_73 : decode prog_78_method_4_code 73 = .ok (.aload_n 2, 1) := by decide +kernel
theorem own_ofPositions_74 : decode prog_78_method_4_code 74 = .ok (.areturn, 1) := by decide +kernel
theorem own_f4 : plainName "com/example/lexigap/lexigap/Gaps" = true := by first | (simp [plainName, overriddenIn]; done) | decide +kernel
theorem own_f5 (m : MethodId) (x0 : Addr) (x1 : Addr) : entryFrame m #[(.ref x0), (.ref x1)] 10 = mkF m 0 #[.val (.ref x0), .val (.ref x1), .unset, .unset, .unset, .unset, .unset, .unset, .unset, .unset] [] := by first | (simp [entryFrame, mkF, argsToLocals, Value.category]; done) | rfl
set_option maxRecDepth 65536 in
set_option maxHeartbeats 40000000 in
theorem rm_of (l : Launch) (Z : State) (a0 : Array Value) (hw : ∀ d ∈ tables_1, d.before a0 Z = true) (ap af : Addr) (kp kf : ClassId) (P : Nat → Int32) (f0 f1 f2 f3 : Nat) (h0 : Heap) (n0 : Nat) (Z0 : n0 ≤ h0.size) (hs : f0 + f1 + f2 + f3 = 4) (Vp : Arv Z h0 ap kp .int (4 : Int32) (own_vs P) (.int (0 : Int32))) (Vf : Arv Z h0 af kf .int (4 : Int32) [(.int (Int32.ofNat f0)), (.int (Int32.ofNat f1)), (.int (Int32.ofNat f2)), (.int (Int32.ofNat f3))] (.int (0 : Int32))) :
    own_Met l Z (⟨"com/example/lexigap/lexigap/Gaps", "ofPositions", "([I[I)[I"⟩ : MethodName) prog_78_method_4_code 10 (some (.array .int)) ({ frames := 0, cells := 1, slots := 4, locals := 0 } : Room) #[(.ref ap), (.ref af)] h0 (fun v h L => ∃ b kb, v = some (.ref b) ∧ Fr n0 L ∧ Keep h0 h [] ∧ h0.size ≤ b ∧ Arv Z h b kb .int (4 : Int32) (own_vs (own_gaps P f0 f1 f2 f3)) (.int (0 : Int32))) := by
  refine MetFree.of_bodySF (plainFor_of_name own_f4) hisR ?_
  intro p e s m args below meth c s₁ Bd hml0 hP hK
  obtain ⟨rfl, hZ, hh⟩ := hP
  have hx := Bd.exec
  have hby := Bd.bytes
  have hlk : meth.locks = false := Bd.notSynchronized
  have hml : c.maxLocals = 10 := hml0
  have hown : s.vm.findClass "com/example/lexigap/lexigap/Gaps" = some m.cls := findClass_of_methodNamed Bd.named
  have hnm := (name_of_methodNamed Bd.named Bd.method).1
  have X0 : Stand p l e ({ frames := 0, cells := 1, slots := 4, locals := 0 } : Room) s m #[(.ref ap), (.ref af)] below meth c s₁ [] 0 0 := Stand.of_body Bd
  have e0 : s₁.heap = h0 := by rw [← hh, Bd.state]; rfl
  show own_Go p e below (own_G s (fun v h L => ∃ b kb, v = some (.ref b) ∧ Fr n0 L ∧ Keep h0 h [] ∧ h0.size ≤ b ∧ Arv Z h b kb .int (4 : Int32) (own_vs (own_gaps P f0 f1 f2 f3)) (.int (0 : Int32))) 1 4) (s₁.setTop (entryFrame m #[(.ref ap), (.ref af)] 10))
  rw [own_f5]
  show own_Go p e below _ (s₁.setTop (mkF m 0 #[.val (.ref ap), .val (.ref af), .unset, .unset, .unset, .unset, .unset, .unset, .unset, .unset] []))
  refine own_go (XS.aloadN X0.here hx rfl (hb hby own_ofPositions_0) rfl rfl (Steps.refl _)) ?_
  show own_Go p e below _ (s₁.setTop (mkF m 1 #[.val (.ref ap), .val (.ref af), .unset, .unset, .unset, .unset, .unset, .unset, .unset, .unset] [(.ref ap)]))
  refine own_go (own_len X0 hx hZ e0 Vp (g := (mkF m 1 #[.val (.ref ap), .val (.ref af), .unset, .unset, .unset, .unset, .unset, .unset, .unset, .unset] [(.ref ap)])) rfl rfl (hb hby own_ofPositions_1)) ?_
  show own_Go p e below _ (s₁.setTop (mkF m 2 #[.val (.ref ap), .val (.ref af), .unset, .unset, .unset, .unset, .unset, .unset, .unset, .unset] [(.int (4 : Int32))]))
  obtain ⟨T1, h1, c1, b1, g1, X1, e1, E1, V1', st1⟩ := own_newP X0 hx hZ (hw _ (List.mem_of_getElem? (i := 0) rfl)) e0 (g := (mkF m 2 #[.val (.ref ap), .val (.ref af), .unset, .unset, .unset, .unset, .unset, .unset, .unset, .unset] [(.int (4 : Int32))])) rfl (hb hby own_ofPositions_2) rfl (by decide) (cap := 4) (by decide) (by decide) (by decide) (by decide)
  have V1 : Arv Z h1 b1 c1 .int (4 : Int32) [(.int (0 : Int32)), (.int (0 : Int32)), (.int (0 : Int32)), (.int (0 : Int32))] (.int (0 : Int32)) := V1'
  have ne_ap_b1 : ap ≠ b1 := own_born Vp.lt g1
  have ne_af_b1 : af ≠ b1 := own_born Vf.lt g1
  have ge_b1 : n0 ≤ b1 := Nat.le_trans Z0 (Nat.le_of_eq g1.symm)
  have sz_b1 : h0.size ≤ b1 := Nat.le_trans (Keep.refl h0 []).1 (Nat.le_of_eq g1.symm)
  have Zl1 : n0 ≤ h1.size := Nat.le_trans Z0 E1.1
  have K1 : Keep h0 h1 [] := (Keep.refl h0 []).ext E1
  refine own_go st1 ?_
  show own_Go p e below _ (T1.setTop (mkF m 4 #[.val (.ref ap), .val (.ref af), .unset, .unset, .unset, .unset, .unset, .unset, .unset, .unset] [(.ref b1)]))
  have inner : ∀ (n i E : Nat) (jv fv pr : Int32) (g : Nat → Int32) (T : State) (locs : List Loc) (H : Heap), E = i + n → E ≤ 4 → Stand p l e ({ frames := 0, cells := 1, slots := 4, locals := 0 } : Room) s m #[(.ref ap), (.ref af)] below meth c T locs 1 4 → T.heap = H → Arv Z H b1 c1 .int (4 : Int32) (own_vs g) (.int (0 : Int32)) → Keep h0 H [] → Fr n0 locs → n0 ≤ H.size →
      (∀ (pr' : Int32) (T' : State) (locs' : List Loc) (H' : Heap), Stand p l e ({ frames := 0, cells := 1, slots := 4, locals := 0 } : Room) s m #[(.ref ap), (.ref af)] below meth c T' locs' 1 4 → T'.heap = H' → Arv Z H' b1 c1 .int (4 : Int32) (own_vs (own_fill P g i n pr)) (.int (0 : Int32)) → Keep h0 H' [] → Fr n0 locs' → n0 ≤ H'.size → own_Go p e below (own_G s (fun v h L => ∃ b kb, v = some (.ref b) ∧ Fr n0 L ∧ Keep h0 h [] ∧ h0.size ≤ b ∧ Arv Z h b kb .int (4 : Int32) (own_vs (own_gaps P f0 f1 f2 f3)) (.int (0 : Int32))) 1 4) (T'.setTop (mkF m 67 #[.val (.ref ap), .val (.ref af), .val (.ref b1), .val (.int (Int32.ofNat E)), .val (.ref af), .val (.int (4 : Int32)), .val (.int jv), .val (.int fv), .val (.int pr'), .val (.int (Int32.ofNat E))] []))) → own_Go p e below (own_G s (fun v h L => ∃ b kb, v = some (.ref b) ∧ Fr n0 L ∧ Keep h0 h [] ∧ h0.size ≤ b ∧ Arv Z h b kb .int (4 : Int32) (own_vs (own_gaps P f0 f1 f2 f3)) (.int (0 : Int32))) 1 4) (T.setTop (mkF m 41 #[.val (.ref ap), .val (.ref af), .val (.ref b1), .val (.int (Int32.ofNat i)), .val (.ref af), .val (.int (4 : Int32)), .val (.int jv), .val (.int fv), .val (.int pr), .val (.int (Int32.ofNat E))] [])) := by
    intro n
    induction n with
    | zero =>
      intro i E jv fv pr g T locs H hE hE4 X eT V K N Zl k
      obtain rfl : i = E := by omega
      show own_Go p e below _ (T.setTop (mkF m 41 #[.val (.ref ap), .val (.ref af), .val (.ref b1), .val (.int (Int32.ofNat i)), .val (.ref af), .val (.int (4 : Int32)), .val (.int jv), .val (.int fv), .val (.int pr), .val (.int (Int32.ofNat i))] []))
      refine own_go (XS.iloadN X.here hx rfl (hb hby own_ofPositions_41) rfl (Steps.refl _)) ?_
      show own_Go p e below _ (T.setTop (mkF m 42 #[.val (.ref ap), .val (.ref af), .val (.ref b1), .val (.int (Int32.ofNat i)), .val (.ref af), .val (.int (4 : Int32)), .val (.int jv), .val (.int fv), .val (.int pr), .val (.int (Int32.ofNat i))] [(.int (Int32.ofNat i))]))
      refine own_go (XS.iload X.here hx rfl (hb hby own_ofPositions_42) rfl (Steps.refl _)) ?_
      show own_Go p e below _ (T.setTop (mkF m 44 #[.val (.ref ap), .val (.ref af), .val (.ref b1), .val (.int (Int32.ofNat i)), .val (.ref af), .val (.int (4 : Int32)), .val (.int jv), .val (.int fv), .val (.int pr), .val (.int (Int32.ofNat i))] [(.int (Int32.ofNat i)), (.int (Int32.ofNat i))]))
      refine own_go (XS.icmpYes X.here hx rfl (pc0 := 44) (pc' := 67) rfl (hb hby own_ofPositions_44) rfl (flt (own_nlt i)).2.1 (by decide) (by decide) (Steps.refl _)) ?_
      show own_Go p e below _ (T.setTop (mkF m 67 #[.val (.ref ap), .val (.ref af), .val (.ref b1), .val (.int (Int32.ofNat i)), .val (.ref af), .val (.int (4 : Int32)), .val (.int jv), .val (.int fv), .val (.int pr), .val (.int (Int32.ofNat i))] []))
      exact k pr T locs H X eT V K N Zl
    | succ n ih =>
      intro i E jv fv pr g T locs H hE hE4 X eT V K N Zl k
      have hi : i < 4 := by omega
      show own_Go p e below _ (T.setTop (mkF m 41 #[.val (.ref ap), .val (.ref af), .val (.ref b1), .val (.int (Int32.ofNat i)), .val (.ref af), .val (.int (4 : Int32)), .val (.int jv), .val (.int fv), .val (.int pr), .val (.int (Int32.ofNat E))] []))
      refine own_go (XS.iloadN X.here hx rfl (hb hby own_ofPositions_41) rfl (Steps.refl _)) ?_
      show own_Go p e below _ (T.setTop (mkF m 42 #[.val (.ref ap), .val (.ref af), .val (.ref b1), .val (.int (Int32.ofNat i)), .val (.ref af), .val (.int (4 : Int32)), .val (.int jv), .val (.int fv), .val (.int pr), .val (.int (Int32.ofNat E))] [(.int (Int32.ofNat i))]))
      refine own_go (XS.iload X.here hx rfl (hb hby own_ofPositions_42) rfl (Steps.refl _)) ?_
      show own_Go p e below _ (T.setTop (mkF m 44 #[.val (.ref ap), .val (.ref af), .val (.ref b1), .val (.int (Int32.ofNat i)), .val (.ref af), .val (.int (4 : Int32)), .val (.int jv), .val (.int fv), .val (.int pr), .val (.int (Int32.ofNat E))] [(.int (Int32.ofNat E)), (.int (Int32.ofNat i))]))
      refine own_go (XS.icmpNo X.here hx rfl (hb hby own_ofPositions_44) rfl (tlt (own_lt (by omega : i < E) hE4)).2.1 (Steps.refl _)) ?_
      show own_Go p e below _ (T.setTop (mkF m 47 #[.val (.ref ap), .val (.ref af), .val (.ref b1), .val (.int (Int32.ofNat i)), .val (.ref af), .val (.int (4 : Int32)), .val (.int jv), .val (.int fv), .val (.int pr), .val (.int (Int32.ofNat E))] []))
      refine own_go (XS.aloadN X.here hx rfl (hb hby own_ofPositions_47) rfl rfl (Steps.refl _)) ?_
      show own_Go p e below _ (T.setTop (mkF m 48 #[.val (.ref ap), .val (.ref af), .val (.ref b1), .val (.int (Int32.ofNat i)), .val (.ref af), .val (.int (4 : Int32)), .val (.int jv), .val (.int fv), .val (.int pr), .val (.int (Int32.ofNat E))] [(.ref b1)]))
      refine own_go (XS.iloadN X.here hx rfl (hb hby own_ofPositions_48) rfl (Steps.refl _)) ?_
      show own_Go p e below _ (T.setTop (mkF m 49 #[.val (.ref ap), .val (.ref af), .val (.ref b1), .val (.int (Int32.ofNat i)), .val (.ref af), .val (.int (4 : Int32)), .val (.int jv), .val (.int fv), .val (.int pr), .val (.int (Int32.ofNat E))] [(.int (Int32.ofNat i)), (.ref b1)]))
      refine own_go (XS.aloadN X.here hx rfl (hb hby own_ofPositions_49) rfl rfl (Steps.refl _)) ?_
      show own_Go p e below _ (T.setTop (mkF m 50 #[.val (.ref ap), .val (.ref af), .val (.ref b1), .val (.int (Int32.ofNat i)), .val (.ref af), .val (.int (4 : Int32)), .val (.int jv), .val (.int fv), .val (.int pr), .val (.int (Int32.ofNat E))] [(.ref ap), (.int (Int32.ofNat i)), (.ref b1)]))
      refine own_go (XS.iloadN X.here hx rfl (hb hby own_ofPositions_50) rfl (Steps.refl _)) ?_
      show own_Go p e below _ (T.setTop (mkF m 51 #[.val (.ref ap), .val (.ref af), .val (.ref b1), .val (.int (Int32.ofNat i)), .val (.ref af), .val (.int (4 : Int32)), .val (.int jv), .val (.int fv), .val (.int pr), .val (.int (Int32.ofNat E))] [(.int (Int32.ofNat i)), (.ref ap), (.int (Int32.ofNat i)), (.ref b1)]))
      refine own_go (own_ldI X hx hZ eT (Vp.keep K nin0) (own_i0 hi) (own_i1 hi) (v := (P i)) (own_get P hi) (g := (mkF m 51 #[.val (.ref ap), .val (.ref af), .val (.ref b1), .val (.int (Int32.ofNat i)), .val (.ref af), .val (.int (4 : Int32)), .val (.int jv), .val (.int fv), .val (.int pr), .val (.int (Int32.ofNat E))] [(.int (Int32.ofNat i)), (.ref ap), (.int (Int32.ofNat i)), (.ref b1)])) rfl rfl (hb hby own_ofPositions_51)) ?_
      show own_Go p e below _ (T.setTop (mkF m 52 #[.val (.ref ap), .val (.ref af), .val (.ref b1), .val (.int (Int32.ofNat i)), .val (.ref af), .val (.int (4 : Int32)), .val (.int jv), .val (.int fv), .val (.int pr), .val (.int (Int32.ofNat E))] [(.int (P i)), (.int (Int32.ofNat i)), (.ref b1)]))
      refine own_go (XS.iload X.here hx rfl (hb hby own_ofPositions_52) rfl (Steps.refl _)) ?_
      show own_Go p e below _ (T.setTop (mkF m 54 #[.val (.ref ap), .val (.ref af), .val (.ref b1), .val (.int (Int32.ofNat i)), .val (.ref af), .val (.int (4 : Int32)), .val (.int jv), .val (.int fv), .val (.int pr), .val (.int (Int32.ofNat E))] [(.int pr), (.int (P i)), (.int (Int32.ofNat i)), (.ref b1)]))
      refine own_go (XS.isub X.here hx rfl (hb hby own_ofPositions_54) rfl (Steps.refl _)) ?_
      show own_Go p e below _ (T.setTop (mkF m 55 #[.val (.ref ap), .val (.ref af), .val (.ref b1), .val (.int (Int32.ofNat i)), .val (.ref af), .val (.int (4 : Int32)), .val (.int jv), .val (.int fv), .val (.int pr), .val (.int (Int32.ofNat E))] [(.int ((P i) - pr)), (.int (Int32.ofNat i)), (.ref b1)]))
      obtain ⟨T2, h2, X2, e2, W2, V2', st2⟩ := own_stI X hx hZ eT V (own_i0 hi) (own_i1 hi) (g := (mkF m 55 #[.val (.ref ap), .val (.ref af), .val (.ref b1), .val (.int (Int32.ofNat i)), .val (.ref af), .val (.int (4 : Int32)), .val (.int jv), .val (.int fv), .val (.int pr), .val (.int (Int32.ofNat E))] [(.int ((P i) - pr)), (.int (Int32.ofNat i)), (.ref b1)])) rfl rfl (hb hby own_ofPositions_55) (i := i) (own_ix hi) (own_lenv g hi)
      have V2 : Arv Z h2 b1 c1 .int (4 : Int32) ((own_vs g).set i (.int ((P i) - pr))) (.int (0 : Int32)) := V2'
      have N2 := Fr.snoc X2 N ge_b1
      have Zl2 : n0 ≤ h2.size := Nat.le_trans Zl (Keep.of_wr W2).1
      have K2 : Keep h0 h2 [] := K.wr W2 (Or.inr sz_b1)
      refine own_go st2 ?_
      show own_Go p e below _ (T2.setTop (mkF m 56 #[.val (.ref ap), .val (.ref af), .val (.ref b1), .val (.int (Int32.ofNat i)), .val (.ref af), .val (.int (4 : Int32)), .val (.int jv), .val (.int fv), .val (.int pr), .val (.int (Int32.ofNat E))] []))
      rw [own_set g hi] at V2
      refine own_go (XS.aloadN X2.here hx rfl (hb hby own_ofPositions_56) rfl rfl (Steps.refl _)) ?_
      show own_Go p e below _ (T2.setTop (mkF m 57 #[.val (.ref ap), .val (.ref af), .val (.ref b1), .val (.int (Int32.ofNat i)), .val (.ref af), .val (.int (4 : Int32)), .val (.int jv), .val (.int fv), .val (.int pr), .val (.int (Int32.ofNat E))] [(.ref ap)]))
      refine own_go (XS.iloadN X2.here hx rfl (hb hby own_ofPositions_57) rfl (Steps.refl _)) ?_
      show own_Go p e below _ (T2.setTop (mkF m 58 #[.val (.ref ap), .val (.ref af), .val (.ref b1), .val (.int (Int32.ofNat i)), .val (.ref af), .val (.int (4 : Int32)), .val (.int jv), .val (.int fv), .val (.int pr), .val (.int (Int32.ofNat E))] [(.int (Int32.ofNat i)), (.ref ap)]))
      refine own_go (own_ldI X2 hx hZ e2 ((Vp.keep K nin0).other W2 ne_ap_b1) (own_i0 hi) (own_i1 hi) (v := (P i)) (own_get P hi) (g := (mkF m 58 #[.val (.ref ap), .val (.ref af), .val (.ref b1), .val (.int (Int32.ofNat i)), .val (.ref af), .val (.int (4 : Int32)), .val (.int jv), .val (.int fv), .val (.int pr), .val (.int (Int32.ofNat E))] [(.int (Int32.ofNat i)), (.ref ap)])) rfl rfl (hb hby own_ofPositions_58)) ?_
      show own_Go p e below _ (T2.setTop (mkF m 59 #[.val (.ref ap), .val (.ref af), .val (.ref b1), .val (.int (Int32.ofNat i)), .val (.ref af), .val (.int (4 : Int32)), .val (.int jv), .val (.int fv), .val (.int pr), .val (.int (Int32.ofNat E))] [(.int (P i))]))
      refine own_go (XS.istore X2.here hx rfl (hb hby own_ofPositions_59) rfl (l' := #[.val (.ref ap), .val (.ref af), .val (.ref b1), .val (.int (Int32.ofNat i)), .val (.ref af), .val (.int (4 : Int32)), .val (.int jv), .val (.int fv), .val (.int (P i)), .val (.int (Int32.ofNat E))]) rfl (Steps.refl _)) ?_
      show own_Go p e below _ (T2.setTop (mkF m 61 #[.val (.ref ap), .val (.ref af), .val (.ref b1), .val (.int (Int32.ofNat i)), .val (.ref af), .val (.int (4 : Int32)), .val (.int jv), .val (.int fv), .val (.int (P i)), .val (.int (Int32.ofNat E))] []))
      refine own_go (XS.iinc X2.here hx rfl (hb hby own_ofPositions_61) rfl (l' := #[.val (.ref ap), .val (.ref af), .val (.ref b1), .val (.int ((Int32.ofNat i) + (1 : Int32))), .val (.ref af), .val (.int (4 : Int32)), .val (.int jv), .val (.int fv), .val (.int (P i)), .val (.int (Int32.ofNat E))]) rfl (Steps.refl _)) ?_
      show own_Go p e below _ (T2.setTop (mkF m 64 #[.val (.ref ap), .val (.ref af), .val (.ref b1), .val (.int ((Int32.ofNat i) + (1 : Int32))), .val (.ref af), .val (.int (4 : Int32)), .val (.int jv), .val (.int fv), .val (.int (P i)), .val (.int (Int32.ofNat E))] []))
      rw [own_n1]
      show own_Go p e below _ (T2.setTop (mkF m 64 #[.val (.ref ap), .val (.ref af), .val (.ref b1), .val (.int (Int32.ofNat (i + 1))), .val (.ref af), .val (.int (4 : Int32)), .val (.int jv), .val (.int fv), .val (.int (P i)), .val (.int (Int32.ofNat E))] []))
      refine own_go (XS.goto X2.here hx rfl (pc0 := 64) (pc' := 41) rfl (hb hby own_ofPositions_64) (by decide) (by decide) (Steps.refl _)) ?_
      show own_Go p e below _ (T2.setTop (mkF m 41 #[.val (.ref ap), .val (.ref af), .val (.ref b1), .val (.int (Int32.ofNat (i + 1))), .val (.ref af), .val (.int (4 : Int32)), .val (.int jv), .val (.int fv), .val (.int (P i)), .val (.int (Int32.ofNat E))] []))
      exact ih (i + 1) E jv fv (P i) (own_upd g i (P i - pr)) T2 _ h2 (by omega) hE4 X2 e2 V2 K2 N2 Zl2 (fun pr' T' locs' H' X' e' V' K' N' Z' => k pr' T' locs' H' X' e' V' K' N' Z')
  refine own_go (XS.astoreN X1.here hx rfl (hb hby own_ofPositions_4) rfl rfl (l' := #[.val (.ref ap), .val (.ref af), .val (.ref b1), .unset, .unset, .unset, .unset, .unset, .unset, .unset]) rfl (Steps.refl _)) ?_
  show own_Go p e below _ (T1.setTop (mkF m 5 #[.val (.ref ap), .val (.ref af), .val (.ref b1), .unset, .unset, .unset, .unset, .unset, .unset, .unset] []))
  refine own_go (XS.iconst X1.here hx rfl (hb hby own_ofPositions_5) (Steps.refl _)) ?_
  show own_Go p e below _ (T1.setTop (mkF m 6 #[.val (.ref ap), .val (.ref af), .val (.ref b1), .unset, .unset, .unset, .unset, .unset, .unset, .unset] [(.int (0 : Int32))]))
  refine own_go (XS.istoreN X1.here hx rfl (hb hby own_ofPositions_6) rfl (l' := #[.val (.ref ap), .val (.ref af), .val (.ref b1), .val (.int (0 : Int32)), .unset, .unset, .unset, .unset, .unset, .unset]) rfl (Steps.refl _)) ?_
  show own_Go p e below _ (T1.setTop (mkF m 7 #[.val (.ref ap), .val (.ref af), .val (.ref b1), .val (.int (0 : Int32)), .unset, .unset, .unset, .unset, .unset, .unset] []))
  refine own_go (XS.aloadN X1.here hx rfl (hb hby own_ofPositions_7) rfl rfl (Steps.refl _)) ?_
  show own_Go p e below _ (T1.setTop (mkF m 8 #[.val (.ref ap), .val (.ref af), .val (.ref b1), .val (.int (0 : Int32)), .unset, .unset, .unset, .unset, .unset, .unset] [(.ref af)]))
  refine own_go (XS.astore X1.here hx rfl (hb hby own_ofPositions_8) rfl rfl (l' := #[.val (.ref ap), .val (.ref af), .val (.ref b1), .val (.int (0 : Int32)), .val (.ref af), .unset, .unset, .unset, .unset, .unset]) rfl (Steps.refl _)) ?_
  show own_Go p e below _ (T1.setTop (mkF m 10 #[.val (.ref ap), .val (.ref af), .val (.ref b1), .val (.int (0 : Int32)), .val (.ref af), .unset, .unset, .unset, .unset, .unset] []))
  refine own_go (XS.aload X1.here hx rfl (hb hby own_ofPositions_10) rfl rfl (Steps.refl _)) ?_
  show own_Go p e below _ (T1.setTop (mkF m 12 #[.val (.ref ap), .val (.ref af), .val (.ref b1), .val (.int (0 : Int32)), .val (.ref af), .unset, .unset, .unset, .unset, .unset] [(.ref af)]))
  refine own_go (own_len X1 hx hZ e1 (Vf.ext E1) (g := (mkF m 12 #[.val (.ref ap), .val (.ref af), .val (.ref b1), .val (.int (0 : Int32)), .val (.ref af), .unset, .unset, .unset, .unset, .unset] [(.ref af)])) rfl rfl (hb hby own_ofPositions_12)) ?_
  show own_Go p e below _ (T1.setTop (mkF m 13 #[.val (.ref ap), .val (.ref af), .val (.ref b1), .val (.int (0 : Int32)), .val (.ref af), .unset, .unset, .unset, .unset, .unset] [(.int (4 : Int32))]))
  refine own_go (XS.istore X1.here hx rfl (hb hby own_ofPositions_13) rfl (l' := #[.val (.ref ap), .val (.ref af), .val (.ref b1), .val (.int (0 : Int32)), .val (.ref af), .val (.int (4 : Int32)), .unset, .unset, .unset, .unset]) rfl (Steps.refl _)) ?_
  show own_Go p e below _ (T1.setTop (mkF m 15 #[.val (.ref ap), .val (.ref af), .val (.ref b1), .val (.int (0 : Int32)), .val (.ref af), .val (.int (4 : Int32)), .unset, .unset, .unset, .unset] []))
  refine own_go (XS.iconst X1.here hx rfl (hb hby own_ofPositions_15) (Steps.refl _)) ?_
  show own_Go p e below _ (T1.setTop (mkF m 16 #[.val (.ref ap), .val (.ref af), .val (.ref b1), .val (.int (0 : Int32)), .val (.ref af), .val (.int (4 : Int32)), .unset, .unset, .unset, .unset] [(.int (0 : Int32))]))
  refine own_go (XS.istore X1.here hx rfl (hb hby own_ofPositions_16) rfl (l' := #[.val (.ref ap), .val (.ref af), .val (.ref b1), .val (.int (0 : Int32)), .val (.ref af), .val (.int (4 : Int32)), .val (.int (0 : Int32)), .unset, .unset, .unset]) rfl (Steps.refl _)) ?_
  show own_Go p e below _ (T1.setTop (mkF m 18 #[.val (.ref ap), .val (.ref af), .val (.ref b1), .val (.int (0 : Int32)), .val (.ref af), .val (.int (4 : Int32)), .val (.int (0 : Int32)), .unset, .unset, .unset] []))
  refine own_go (XS.iload X1.here hx rfl (hb hby own_ofPositions_18) rfl (Steps.refl _)) ?_
  show own_Go p e below _ (T1.setTop (mkF m 20 #[.val (.ref ap), .val (.ref af), .val (.ref b1), .val (.int (0 : Int32)), .val (.ref af), .val (.int (4 : Int32)), .val (.int (0 : Int32)), .unset, .unset, .unset] [(.int (0 : Int32))]))
  refine own_go (XS.iload X1.here hx rfl (hb hby own_ofPositions_20) rfl (Steps.refl _)) ?_
  show own_Go p e below _ (T1.setTop (mkF m 22 #[.val (.ref ap), .val (.ref af), .val (.ref b1), .val (.int (0 : Int32)), .val (.ref af), .val (.int (4 : Int32)), .val (.int (0 : Int32)), .unset, .unset, .unset] [(.int (4 : Int32)), (.int (0 : Int32))]))
  show own_Go p e below _ (T1.setTop (mkF m 22 #[.val (.ref ap), .val (.ref af), .val (.ref b1), .val (.int (0 : Int32)), .val (.ref af), .val (.int (4 : Int32)), .val (.int (0 : Int32)), .unset, .unset, .unset] [(.int (4 : Int32)), (.int (0 : Int32))]))
  show own_Go p e below _ (T1.setTop (mkF m 22 #[.val (.ref ap), .val (.ref af), .val (.ref b1), .val (.int (Int32.ofNat 0)), .val (.ref af), .val (.int (4 : Int32)), .val (.int (0 : Int32)), .unset, .unset, .unset] [(.int (4 : Int32)), (.int (0 : Int32))]))
  refine own_go (XS.icmpNo X1.here hx rfl (hb hby own_ofPositions_22) rfl (tlt (by decide : ((0 : Int32) < (4 : Int32)))).2.1 (Steps.refl _)) ?_
  show own_Go p e below _ (T1.setTop (mkF m 25 #[.val (.ref ap), .val (.ref af), .val (.ref b1), .val (.int (Int32.ofNat 0)), .val (.ref af), .val (.int (4 : Int32)), .val (.int (0 : Int32)), .unset, .unset, .unset] []))
  refine own_go (XS.aload X1.here hx rfl (hb hby own_ofPositions_25) rfl rfl (Steps.refl _)) ?_
  show own_Go p e below _ (T1.setTop (mkF m 27 #[.val (.ref ap), .val (.ref af), .val (.ref b1), .val (.int (Int32.ofNat 0)), .val (.ref af), .val (.int (4 : Int32)), .val (.int (0 : Int32)), .unset, .unset, .unset] [(.ref af)]))
  refine own_go (XS.iload X1.here hx rfl (hb hby own_ofPositions_27) rfl (Steps.refl _)) ?_
  show own_Go p e below _ (T1.setTop (mkF m 29 #[.val (.ref ap), .val (.ref af), .val (.ref b1), .val (.int (Int32.ofNat 0)), .val (.ref af), .val (.int (4 : Int32)), .val (.int (0 : Int32)), .unset, .unset, .unset] [(.int (0 : Int32)), (.ref af)]))
  refine own_go (own_ldI X1 hx hZ e1 (Vf.ext E1) (by decide) (by decide) (v := (Int32.ofNat f0)) rfl (g := (mkF m 29 #[.val (.ref ap), .val (.ref af), .val (.ref b1), .val (.int (Int32.ofNat 0)), .val (.ref af), .val (.int (4 : Int32)), .val (.int (0 : Int32)), .unset, .unset, .unset] [(.int (0 : Int32)), (.ref af)])) rfl rfl (hb hby own_ofPositions_29)) ?_
  show own_Go p e below _ (T1.setTop (mkF m 30 #[.val (.ref ap), .val (.ref af), .val (.ref b1), .val (.int (Int32.ofNat 0)), .val (.ref af), .val (.int (4 : Int32)), .val (.int (0 : Int32)), .unset, .unset, .unset] [(.int (Int32.ofNat f0))]))
  refine own_go (XS.istore X1.here hx rfl (hb hby own_ofPositions_30) rfl (l' := #[.val (.ref ap), .val (.ref af), .val (.ref b1), .val (.int (Int32.ofNat 0)), .val (.ref af), .val (.int (4 : Int32)), .val (.int (0 : Int32)), .val (.int (Int32.ofNat f0)), .unset, .unset]) rfl (Steps.refl _)) ?_
  show own_Go p e below _ (T1.setTop (mkF m 32 #[.val (.ref ap), .val (.ref af), .val (.ref b1), .val (.int (Int32.ofNat 0)), .val (.ref af), .val (.int (4 : Int32)), .val (.int (0 : Int32)), .val (.int (Int32.ofNat f0)), .unset, .unset] []))
  refine own_go (XS.iconst X1.here hx rfl (hb hby own_ofPositions_32) (Steps.refl _)) ?_
  show own_Go p e below _ (T1.setTop (mkF m 33 #[.val (.ref ap), .val (.ref af), .val (.ref b1), .val (.int (Int32.ofNat 0)), .val (.ref af), .val (.int (4 : Int32)), .val (.int (0 : Int32)), .val (.int (Int32.ofNat f0)), .unset, .unset] [(.int (0 : Int32))]))
  refine own_go (XS.istore X1.here hx rfl (hb hby own_ofPositions_33) rfl (l' := #[.val (.ref ap), .val (.ref af), .val (.ref b1), .val (.int (Int32.ofNat 0)), .val (.ref af), .val (.int (4 : Int32)), .val (.int (0 : Int32)), .val (.int (Int32.ofNat f0)), .val (.int (0 : Int32)), .unset]) rfl (Steps.refl _)) ?_
  show own_Go p e below _ (T1.setTop (mkF m 35 #[.val (.ref ap), .val (.ref af), .val (.ref b1), .val (.int (Int32.ofNat 0)), .val (.ref af), .val (.int (4 : Int32)), .val (.int (0 : Int32)), .val (.int (Int32.ofNat f0)), .val (.int (0 : Int32)), .unset] []))
  refine own_go (XS.iloadN X1.here hx rfl (hb hby own_ofPositions_35) rfl (Steps.refl _)) ?_
  show own_Go p e below _ (T1.setTop (mkF m 36 #[.val (.ref ap), .val (.ref af), .val (.ref b1), .val (.int (Int32.ofNat 0)), .val (.ref af), .val (.int (4 : Int32)), .val (.int (0 : Int32)), .val (.int (Int32.ofNat f0)), .val (.int (0 : Int32)), .unset] [(.int (Int32.ofNat 0))]))
  refine own_go (XS.iload X1.here hx rfl (hb hby own_ofPositions_36) rfl (Steps.refl _)) ?_
  show own_Go p e below _ (T1.setTop (mkF m 38 #[.val (.ref ap), .val (.ref af), .val (.ref b1), .val (.int (Int32.ofNat 0)), .val (.ref af), .val (.int (4 : Int32)), .val (.int (0 : Int32)), .val (.int (Int32.ofNat f0)), .val (.int (0 : Int32)), .unset] [(.int (Int32.ofNat f0)), (.int (Int32.ofNat 0))]))
  refine own_go (XS.iadd X1.here hx rfl (hb hby own_ofPositions_38) rfl (Steps.refl _)) ?_
  show own_Go p e below _ (T1.setTop (mkF m 39 #[.val (.ref ap), .val (.ref af), .val (.ref b1), .val (.int (Int32.ofNat 0)), .val (.ref af), .val (.int (4 : Int32)), .val (.int (0 : Int32)), .val (.int (Int32.ofNat f0)), .val (.int (0 : Int32)), .unset] [(.int ((Int32.ofNat 0) + (Int32.ofNat f0)))]))
  refine own_go (XS.istore X1.here hx rfl (hb hby own_ofPositions_39) rfl (l' := #[.val (.ref ap), .val (.ref af), .val (.ref b1), .val (.int (Int32.ofNat 0)), .val (.ref af), .val (.int (4 : Int32)), .val (.int (0 : Int32)), .val (.int (Int32.ofNat f0)), .val (.int (0 : Int32)), .val (.int ((Int32.ofNat 0) + (Int32.ofNat f0)))]) rfl (Steps.refl _)) ?_
  show own_Go p e below _ (T1.setTop (mkF m 41 #[.val (.ref ap), .val (.ref af), .val (.ref b1), .val (.int (Int32.ofNat 0)), .val (.ref af), .val (.int (4 : Int32)), .val (.int (0 : Int32)), .val (.int (Int32.ofNat f0)), .val (.int (0 : Int32)), .val (.int ((Int32.ofNat 0) + (Int32.ofNat f0)))] []))
  rw [own_add 0 f0]
  show own_Go p e below _ (T1.setTop (mkF m 41 #[.val (.ref ap), .val (.ref af), .val (.ref b1), .val (.int (Int32.ofNat 0)), .val (.ref af), .val (.int (4 : Int32)), .val (.int (0 : Int32)), .val (.int (Int32.ofNat f0)), .val (.int (0 : Int32)), .val (.int (Int32.ofNat (0 + f0)))] []))
  refine inner f0 0 (0 + f0) (0 : Int32) (Int32.ofNat f0) (0 : Int32) (fun _ => (0 : Int32)) T1 _ h1 rfl (by omega) X1 e1 V1 K1 (Fr.nil n0) Zl1 ?_
  intro pr3 T3 locs3 h3 X3 e3 V3 K3 N3 Zl3
  show own_Go p e below _ (T3.setTop (mkF m 67 #[.val (.ref ap), .val (.ref af), .val (.ref b1), .val (.int (Int32.ofNat (0 + f0))), .val (.ref af), .val (.int (4 : Int32)), .val (.int (0 : Int32)), .val (.int (Int32.ofNat f0)), .val (.int pr3), .val (.int (Int32.ofNat (0 + f0)))] []))
  refine own_go (XS.iinc X3.here hx rfl (hb hby own_ofPositions_67) rfl (l' := #[.val (.ref ap), .val (.ref af), .val (.ref b1), .val (.int (Int32.ofNat (0 + f0))), .val (.ref af), .val (.int (4 : Int32)), .val (.int ((0 : Int32) + (1 : Int32))), .val (.int (Int32.ofNat f0)), .val (.int pr3), .val (.int (Int32.ofNat (0 + f0)))]) rfl (Steps.refl _)) ?_
  show own_Go p e below _ (T3.setTop (mkF m 70 #[.val (.ref ap), .val (.ref af), .val (.ref b1), .val (.int (Int32.ofNat (0 + f0))), .val (.ref af), .val (.int (4 : Int32)), .val (.int ((0 : Int32) + (1 : Int32))), .val (.int (Int32.ofNat f0)), .val (.int pr3), .val (.int (Int32.ofNat (0 + f0)))] []))
  refine own_go (XS.goto X3.here hx rfl (pc0 := 70) (pc' := 18) rfl (hb hby own_ofPositions_70) (by decide) (by decide) (Steps.refl _)) ?_
  show own_Go p e below _ (T3.setTop (mkF m 18 #[.val (.ref ap), .val (.ref af), .val (.ref b1), .val (.int (Int32.ofNat (0 + f0))), .val (.ref af), .val (.int (4 : Int32)), .val (.int ((0 : Int32) + (1 : Int32))), .val (.int (Int32.ofNat f0)), .val (.int pr3), .val (.int (Int32.ofNat (0 + f0)))] []))
  show own_Go p e below _ (T3.setTop (mkF m 18 #[.val (.ref ap), .val (.ref af), .val (.ref b1), .val (.int (Int32.ofNat (0 + f0))), .val (.ref af), .val (.int (4 : Int32)), .val (.int ((0 : Int32) + (1 : Int32))), .val (.int (Int32.ofNat f0)), .val (.int pr3), .val (.int (Int32.ofNat (0 + f0)))] []))
  show own_Go p e below _ (T3.setTop (mkF m 18 #[.val (.ref ap), .val (.ref af), .val (.ref b1), .val (.int (Int32.ofNat (0 + f0))), .val (.ref af), .val (.int (4 : Int32)), .val (.int (1 : Int32)), .val (.int (Int32.ofNat f0)), .val (.int pr3), .val (.int (Int32.ofNat (0 + f0)))] []))
  refine own_go (XS.iload X3.here hx rfl (hb hby own_ofPositions_18) rfl (Steps.refl _)) ?_
  show own_Go p e below _ (T3.setTop (mkF m 20 #[.val (.ref ap), .val (.ref af), .val (.ref b1), .val (.int (Int32.ofNat (0 + f0))), .val (.ref af), .val (.int (4 : Int32)), .val (.int (1 : Int32)), .val (.int (Int32.ofNat f0)), .val (.int pr3), .val (.int (Int32.ofNat (0 + f0)))] [(.int (1 : Int32))]))
  refine own_go (XS.iload X3.here hx rfl (hb hby own_ofPositions_20) rfl (Steps.refl _)) ?_
  show own_Go p e below _ (T3.setTop (mkF m 22 #[.val (.ref ap), .val (.ref af), .val (.ref b1), .val (.int (Int32.ofNat (0 + f0))), .val (.ref af), .val (.int (4 : Int32)), .val (.int (1 : Int32)), .val (.int (Int32.ofNat f0)), .val (.int pr3), .val (.int (Int32.ofNat (0 + f0)))] [(.int (4 : Int32)), (.int (1 : Int32))]))
  refine own_go (XS.icmpNo X3.here hx rfl (hb hby own_ofPositions_22) rfl (tlt (by decide : ((1 : Int32) < (4 : Int32)))).2.1 (Steps.refl _)) ?_
  show own_Go p e below _ (T3.setTop (mkF m 25 #[.val (.ref ap), .val (.ref af), .val (.ref b1), .val (.int (Int32.ofNat (0 + f0))), .val (.ref af), .val (.int (4 : Int32)), .val (.int (1 : Int32)), .val (.int (Int32.ofNat f0)), .val (.int pr3), .val (.int (Int32.ofNat (0 + f0)))] []))
  refine own_go (XS.aload X3.here hx rfl (hb hby own_ofPositions_25) rfl rfl (Steps.refl _)) ?_
  show own_Go p e below _ (T3.setTop (mkF m 27 #[.val (.ref ap), .val (.ref af), .val (.ref b1), .val (.int (Int32.ofNat (0 + f0))), .val (.ref af), .val (.int (4 : Int32)), .val (.int (1 : Int32)), .val (.int (Int32.ofNat f0)), .val (.int pr3), .val (.int (Int32.ofNat (0 + f0)))] [(.ref af)]))
  refine own_go (XS.iload X3.here hx rfl (hb hby own_ofPositions_27) rfl (Steps.refl _)) ?_
  show own_Go p e below _ (T3.setTop (mkF m 29 #[.val (.ref ap), .val (.ref af), .val (.ref b1), .val (.int (Int32.ofNat (0 + f0))), .val (.ref af), .val (.int (4 : Int32)), .val (.int (1 : Int32)), .val (.int (Int32.ofNat f0)), .val (.int pr3), .val (.int (Int32.ofNat (0 + f0)))] [(.int (1 : Int32)), (.ref af)]))
  refine own_go (own_ldI X3 hx hZ e3 (Vf.keep K3 nin0) (by decide) (by decide) (v := (Int32.ofNat f1)) rfl (g := (mkF m 29 #[.val (.ref ap), .val (.ref af), .val (.ref b1), .val (.int (Int32.ofNat (0 + f0))), .val (.ref af), .val (.int (4 : Int32)), .val (.int (1 : Int32)), .val (.int (Int32.ofNat f0)), .val (.int pr3), .val (.int (Int32.ofNat (0 + f0)))] [(.int (1 : Int32)), (.ref af)])) rfl rfl (hb hby own_ofPositions_29)) ?_
  show own_Go p e below _ (T3.setTop (mkF m 30 #[.val (.ref ap), .val (.ref af), .val (.ref b1), .val (.int (Int32.ofNat (0 + f0))), .val (.ref af), .val (.int (4 : Int32)), .val (.int (1 : Int32)), .val (.int (Int32.ofNat f0)), .val (.int pr3), .val (.int (Int32.ofNat (0 + f0)))] [(.int (Int32.ofNat f1))]))
  refine own_go (XS.istore X3.here hx rfl (hb hby own_ofPositions_30) rfl (l' := #[.val (.ref ap), .val (.ref af), .val (.ref b1), .val (.int (Int32.ofNat (0 + f0))), .val (.ref af), .val (.int (4 : Int32)), .val (.int (1 : Int32)), .val (.int (Int32.ofNat f1)), .val (.int pr3), .val (.int (Int32.ofNat (0 + f0)))]) rfl (Steps.refl _)) ?_
  show own_Go p e below _ (T3.setTop (mkF m 32 #[.val (.ref ap), .val (.ref af), .val (.ref b1), .val (.int (Int32.ofNat (0 + f0))), .val (.ref af), .val (.int (4 : Int32)), .val (.int (1 : Int32)), .val (.int (Int32.ofNat f1)), .val (.int pr3), .val (.int (Int32.ofNat (0 + f0)))] []))
  refine own_go (XS.iconst X3.here hx rfl (hb hby own_ofPositions_32) (Steps.refl _)) ?_
  show own_Go p e below _ (T3.setTop (mkF m 33 #[.val (.ref ap), .val (.ref af), .val (.ref b1), .val (.int (Int32.ofNat (0 + f0))), .val (.ref af), .val (.int (4 : Int32)), .val (.int (1 : Int32)), .val (.int (Int32.ofNat f1)), .val (.int pr3), .val (.int (Int32.ofNat (0 + f0)))] [(.int (0 : Int32))]))
  refine own_go (XS.istore X3.here hx rfl (hb hby own_ofPositions_33) rfl (l' := #[.val (.ref ap), .val (.ref af), .val (.ref b1), .val (.int (Int32.ofNat (0 + f0))), .val (.ref af), .val (.int (4 : Int32)), .val (.int (1 : Int32)), .val (.int (Int32.ofNat f1)), .val (.int (0 : Int32)), .val (.int (Int32.ofNat (0 + f0)))]) rfl (Steps.refl _)) ?_
  show own_Go p e below _ (T3.setTop (mkF m 35 #[.val (.ref ap), .val (.ref af), .val (.ref b1), .val (.int (Int32.ofNat (0 + f0))), .val (.ref af), .val (.int (4 : Int32)), .val (.int (1 : Int32)), .val (.int (Int32.ofNat f1)), .val (.int (0 : Int32)), .val (.int (Int32.ofNat (0 + f0)))] []))
  refine own_go (XS.iloadN X3.here hx rfl (hb hby own_ofPositions_35) rfl (Steps.refl _)) ?_
  show own_Go p e below _ (T3.setTop (mkF m 36 #[.val (.ref ap), .val (.ref af), .val (.ref b1), .val (.int (Int32.ofNat (0 + f0))), .val (.ref af), .val (.int (4 : Int32)), .val (.int (1 : Int32)), .val (.int (Int32.ofNat f1)), .val (.int (0 : Int32)), .val (.int (Int32.ofNat (0 + f0)))] [(.int (Int32.ofNat (0 + f0)))]))
  refine own_go (XS.iload X3.here hx rfl (hb hby own_ofPositions_36) rfl (Steps.refl _)) ?_
  show own_Go p e below _ (T3.setTop (mkF m 38 #[.val (.ref ap), .val (.ref af), .val (.ref b1), .val (.int (Int32.ofNat (0 + f0))), .val (.ref af), .val (.int (4 : Int32)), .val (.int (1 : Int32)), .val (.int (Int32.ofNat f1)), .val (.int (0 : Int32)), .val (.int (Int32.ofNat (0 + f0)))] [(.int (Int32.ofNat f1)), (.int (Int32.ofNat (0 + f0)))]))
  refine own_go (XS.iadd X3.here hx rfl (hb hby own_ofPositions_38) rfl (Steps.refl _)) ?_
  show own_Go p e below _ (T3.setTop (mkF m 39 #[.val (.ref ap), .val (.ref af), .val (.ref b1), .val (.int (Int32.ofNat (0 + f0))), .val (.ref af), .val (.int (4 : Int32)), .val (.int (1 : Int32)), .val (.int (Int32.ofNat f1)), .val (.int (0 : Int32)), .val (.int (Int32.ofNat (0 + f0)))] [(.int ((Int32.ofNat (0 + f0)) + (Int32.ofNat f1)))]))
  refine own_go (XS.istore X3.here hx rfl (hb hby own_ofPositions_39) rfl (l' := #[.val (.ref ap), .val (.ref af), .val (.ref b1), .val (.int (Int32.ofNat (0 + f0))), .val (.ref af), .val (.int (4 : Int32)), .val (.int (1 : Int32)), .val (.int (Int32.ofNat f1)), .val (.int (0 : Int32)), .val (.int ((Int32.ofNat (0 + f0)) + (Int32.ofNat f1)))]) rfl (Steps.refl _)) ?_
  show own_Go p e below _ (T3.setTop (mkF m 41 #[.val (.ref ap), .val (.ref af), .val (.ref b1), .val (.int (Int32.ofNat (0 + f0))), .val (.ref af), .val (.int (4 : Int32)), .val (.int (1 : Int32)), .val (.int (Int32.ofNat f1)), .val (.int (0 : Int32)), .val (.int ((Int32.ofNat (0 + f0)) + (Int32.ofNat f1)))] []))
  rw [own_add (0 + f0) f1]
  show own_Go p e below _ (T3.setTop (mkF m 41 #[.val (.ref ap), .val (.ref af), .val (.ref b1), .val (.int (Int32.ofNat (0 + f0))), .val (.ref af), .val (.int (4 : Int32)), .val (.int (1 : Int32)), .val (.int (Int32.ofNat f1)), .val (.int (0 : Int32)), .val (.int (Int32.ofNat ((0 + f0) + f1)))] []))
  refine inner f1 (0 + f0) ((0 + f0) + f1) (1 : Int32) (Int32.ofNat f1) (0 : Int32) (own_fill P (fun _ => (0 : Int32)) 0 f0 (0 : Int32)) T3 _ h3 rfl (by omega) X3 e3 V3 K3 N3 Zl3 ?_
  intro pr4 T4 locs4 h4 X4 e4 V4 K4 N4 Zl4
  show own_Go p e below _ (T4.setTop (mkF m 67 #[.val (.ref ap), .val (.ref af), .val (.ref b1), .val (.int (Int32.ofNat ((0 + f0) + f1))), .val (.ref af), .val (.int (4 : Int32)), .val (.int (1 : Int32)), .val (.int (Int32.ofNat f1)), .val (.int pr4), .val (.int (Int32.ofNat ((0 + f0) + f1)))] []))
  refine own_go (XS.iinc X4.here hx rfl (hb hby own_ofPositions_67) rfl (l' := #[.val (.ref ap), .val (.ref af), .val (.ref b1), .val (.int (Int32.ofNat ((0 + f0) + f1))), .val (.ref af), .val (.int (4 : Int32)), .val (.int ((1 : Int32) + (1 : Int32))), .val (.int (Int32.ofNat f1)), .val (.int pr4), .val (.int (Int32.ofNat ((0 + f0) + f1)))]) rfl (Steps.refl _)) ?_
  show own_Go p e below _ (T4.setTop (mkF m 70 #[.val (.ref ap), .val (.ref af), .val (.ref b1), .val (.int (Int32.ofNat ((0 + f0) + f1))), .val (.ref af), .val (.int (4 : Int32)), .val (.int ((1 : Int32) + (1 : Int32))), .val (.int (Int32.ofNat f1)), .val (.int pr4), .val (.int (Int32.ofNat ((0 + f0) + f1)))] []))
  refine own_go (XS.goto X4.here hx rfl (pc0 := 70) (pc' := 18) rfl (hb hby own_ofPositions_70) (by decide) (by decide) (Steps.refl _)) ?_
  show own_Go p e below _ (T4.setTop (mkF m 18 #[.val (.ref ap), .val (.ref af), .val (.ref b1), .val (.int (Int32.ofNat ((0 + f0) + f1))), .val (.ref af), .val (.int (4 : Int32)), .val (.int ((1 : Int32) + (1 : Int32))), .val (.int (Int32.ofNat f1)), .val (.int pr4), .val (.int (Int32.ofNat ((0 + f0) + f1)))] []))
  show own_Go p e below _ (T4.setTop (mkF m 18 #[.val (.ref ap), .val (.ref af), .val (.ref b1), .val (.int (Int32.ofNat ((0 + f0) + f1))), .val (.ref af), .val (.int (4 : Int32)), .val (.int ((1 : Int32) + (1 : Int32))), .val (.int (Int32.ofNat f1)), .val (.int pr4), .val (.int (Int32.ofNat ((0 + f0) + f1)))] []))
  show own_Go p e below _ (T4.setTop (mkF m 18 #[.val (.ref ap), .val (.ref af), .val (.ref b1), .val (.int (Int32.ofNat ((0 + f0) + f1))), .val (.ref af), .val (.int (4 : Int32)), .val (.int (2 : Int32)), .val (.int (Int32.ofNat f1)), .val (.int pr4), .val (.int (Int32.ofNat ((0 + f0) + f1)))] []))
  refine own_go (XS.iload X4.here hx rfl (hb hby own_ofPositions_18) rfl (Steps.refl _)) ?_
  show own_Go p e below _ (T4.setTop (mkF m 20 #[.val (.ref ap), .val (.ref af), .val (.ref b1), .val (.int (Int32.ofNat ((0 + f0) + f1))), .val (.ref af), .val (.int (4 : Int32)), .val (.int (2 : Int32)), .val (.int (Int32.ofNat f1)), .val (.int pr4), .val (.int (Int32.ofNat ((0 + f0) + f1)))] [(.int (2 : Int32))]))
  refine own_go (XS.iload X4.here hx rfl (hb hby own_ofPositions_20) rfl (Steps.refl _)) ?_
  show own_Go p e below _ (T4.setTop (mkF m 22 #[.val (.ref ap), .val (.ref af), .val (.ref b1), .val (.int (Int32.ofNat ((0 + f0) + f1))), .val (.ref af), .val (.int (4 : Int32)), .val (.int (2 : Int32)), .val (.int (Int32.ofNat f1)), .val (.int pr4), .val (.int (Int32.ofNat ((0 + f0) + f1)))] [(.int (4 : Int32)), (.int (2 : Int32))]))
  refine own_go (XS.icmpNo X4.here hx rfl (hb hby own_ofPositions_22) rfl (tlt (by decide : ((2 : Int32) < (4 : Int32)))).2.1 (Steps.refl _)) ?_
  show own_Go p e below _ (T4.setTop (mkF m 25 #[.val (.ref ap), .val (.ref af), .val (.ref b1), .val (.int (Int32.ofNat ((0 + f0) + f1))), .val (.ref af), .val (.int (4 : Int32)), .val (.int (2 : Int32)), .val (.int (Int32.ofNat f1)), .val (.int pr4), .val (.int (Int32.ofNat ((0 + f0) + f1)))] []))
  refine own_go (XS.aload X4.here hx rfl (hb hby own_ofPositions_25) rfl rfl (Steps.refl _)) ?_
  show own_Go p e below _ (T4.setTop (mkF m 27 #[.val (.ref ap), .val (.ref af), .val (.ref b1), .val (.int (Int32.ofNat ((0 + f0) + f1))), .val (.ref af), .val (.int (4 : Int32)), .val (.int (2 : Int32)), .val (.int (Int32.ofNat f1)), .val (.int pr4), .val (.int (Int32.ofNat ((0 + f0) + f1)))] [(.ref af)]))
  refine own_go (XS.iload X4.here hx rfl (hb hby own_ofPositions_27) rfl (Steps.refl _)) ?_
  show own_Go p e below _ (T4.setTop (mkF m 29 #[.val (.ref ap), .val (.ref af), .val (.ref b1), .val (.int (Int32.ofNat ((0 + f0) + f1))), .val (.ref af), .val (.int (4 : Int32)), .val (.int (2 : Int32)), .val (.int (Int32.ofNat f1)), .val (.int pr4), .val (.int (Int32.ofNat ((0 + f0) + f1)))] [(.int (2 : Int32)), (.ref af)]))
  refine own_go (own_ldI X4 hx hZ e4 (Vf.keep K4 nin0) (by decide) (by decide) (v := (Int32.ofNat f2)) rfl (g := (mkF m 29 #[.val (.ref ap), .val (.ref af), .val (.ref b1), .val (.int (Int32.ofNat ((0 + f0) + f1))), .val (.ref af), .val (.int (4 : Int32)), .val (.int (2 : Int32)), .val (.int (Int32.ofNat f1)), .val (.int pr4), .val (.int (Int32.ofNat ((0 + f0) + f1)))] [(.int (2 : Int32)), (.ref af)])) rfl rfl (hb hby own_ofPositions_29)) ?_
  show own_Go p e below _ (T4.setTop (mkF m 30 #[.val (.ref ap), .val (.ref af), .val (.ref b1), .val (.int (Int32.ofNat ((0 + f0) + f1))), .val (.ref af), .val (.int (4 : Int32)), .val (.int (2 : Int32)), .val (.int (Int32.ofNat f1)), .val (.int pr4), .val (.int (Int32.ofNat ((0 + f0) + f1)))] [(.int (Int32.ofNat f2))]))
  refine own_go (XS.istore X4.here hx rfl (hb hby own_ofPositions_30) rfl (l' := #[.val (.ref ap), .val (.ref af), .val (.ref b1), .val (.int (Int32.ofNat ((0 + f0) + f1))), .val (.ref af), .val (.int (4 : Int32)), .val (.int (2 : Int32)), .val (.int (Int32.ofNat f2)), .val (.int pr4), .val (.int (Int32.ofNat ((0 + f0) + f1)))]) rfl (Steps.refl _)) ?_
  show own_Go p e below _ (T4.setTop (mkF m 32 #[.val (.ref ap), .val (.ref af), .val (.ref b1), .val (.int (Int32.ofNat ((0 + f0) + f1))), .val (.ref af), .val (.int (4 : Int32)), .val (.int (2 : Int32)), .val (.int (Int32.ofNat f2)), .val (.int pr4), .val (.int (Int32.ofNat ((0 + f0) + f1)))] []))
  refine own_go (XS.iconst X4.here hx rfl (hb hby own_ofPositions_32) (Steps.refl _)) ?_
  show own_Go p e below _ (T4.setTop (mkF m 33 #[.val (.ref ap), .val (.ref af), .val (.ref b1), .val (.int (Int32.ofNat ((0 + f0) + f1))), .val (.ref af), .val (.int (4 : Int32)), .val (.int (2 : Int32)), .val (.int (Int32.ofNat f2)), .val (.int pr4), .val (.int (Int32.ofNat ((0 + f0) + f1)))] [(.int (0 : Int32))]))
  refine own_go (XS.istore X4.here hx rfl (hb hby own_ofPositions_33) rfl (l' := #[.val (.ref ap), .val (.ref af), .val (.ref b1), .val (.int (Int32.ofNat ((0 + f0) + f1))), .val (.ref af), .val (.int (4 : Int32)), .val (.int (2 : Int32)), .val (.int (Int32.ofNat f2)), .val (.int (0 : Int32)), .val (.int (Int32.ofNat ((0 + f0) + f1)))]) rfl (Steps.refl _)) ?_
  show own_Go p e below _ (T4.setTop (mkF m 35 #[.val (.ref ap), .val (.ref af), .val (.ref b1), .val (.int (Int32.ofNat ((0 + f0) + f1))), .val (.ref af), .val (.int (4 : Int32)), .val (.int (2 : Int32)), .val (.int (Int32.ofNat f2)), .val (.int (0 : Int32)), .val (.int (Int32.ofNat ((0 + f0) + f1)))] []))
  refine own_go (XS.iloadN X4.here hx rfl (hb hby own_ofPositions_35) rfl (Steps.refl _)) ?_
  show own_Go p e below _ (T4.setTop (mkF m 36 #[.val (.ref ap), .val (.ref af), .val (.ref b1), .val (.int (Int32.ofNat ((0 + f0) + f1))), .val (.ref af), .val (.int (4 : Int32)), .val (.int (2 : Int32)), .val (.int (Int32.ofNat f2)), .val (.int (0 : Int32)), .val (.int (Int32.ofNat ((0 + f0) + f1)))] [(.int (Int32.ofNat ((0 + f0) + f1)))]))
  refine own_go (XS.iload X4.here hx rfl (hb hby own_ofPositions_36) rfl (Steps.refl _)) ?_
  show own_Go p e below _ (T4.setTop (mkF m 38 #[.val (.ref ap), .val (.ref af), .val (.ref b1), .val (.int (Int32.ofNat ((0 + f0) + f1))), .val (.ref af), .val (.int (4 : Int32)), .val (.int (2 : Int32)), .val (.int (Int32.ofNat f2)), .val (.int (0 : Int32)), .val (.int (Int32.ofNat ((0 + f0) + f1)))] [(.int (Int32.ofNat f2)), (.int (Int32.ofNat ((0 + f0) + f1)))]))
  refine own_go (XS.iadd X4.here hx rfl (hb hby own_ofPositions_38) rfl (Steps.refl _)) ?_
  show own_Go p e below _ (T4.setTop (mkF m 39 #[.val (.ref ap), .val (.ref af), .val (.ref b1), .val (.int (Int32.ofNat ((0 + f0) + f1))), .val (.ref af), .val (.int (4 : Int32)), .val (.int (2 : Int32)), .val (.int (Int32.ofNat f2)), .val (.int (0 : Int32)), .val (.int (Int32.ofNat ((0 + f0) + f1)))] [(.int ((Int32.ofNat ((0 + f0) + f1)) + (Int32.ofNat f2)))]))
  refine own_go (XS.istore X4.here hx rfl (hb hby own_ofPositions_39) rfl (l' := #[.val (.ref ap), .val (.ref af), .val (.ref b1), .val (.int (Int32.ofNat ((0 + f0) + f1))), .val (.ref af), .val (.int (4 : Int32)), .val (.int (2 : Int32)), .val (.int (Int32.ofNat f2)), .val (.int (0 : Int32)), .val (.int ((Int32.ofNat ((0 + f0) + f1)) + (Int32.ofNat f2)))]) rfl (Steps.refl _)) ?_
  show own_Go p e below _ (T4.setTop (mkF m 41 #[.val (.ref ap), .val (.ref af), .val (.ref b1), .val (.int (Int32.ofNat ((0 + f0) + f1))), .val (.ref af), .val (.int (4 : Int32)), .val (.int (2 : Int32)), .val (.int (Int32.ofNat f2)), .val (.int (0 : Int32)), .val (.int ((Int32.ofNat ((0 + f0) + f1)) + (Int32.ofNat f2)))] []))
  rw [own_add ((0 + f0) + f1) f2]
  show own_Go p e below _ (T4.setTop (mkF m 41 #[.val (.ref ap), .val (.ref af), .val (.ref b1), .val (.int (Int32.ofNat ((0 + f0) + f1))), .val (.ref af), .val (.int (4 : Int32)), .val (.int (2 : Int32)), .val (.int (Int32.ofNat f2)), .val (.int (0 : Int32)), .val (.int (Int32.ofNat (((0 + f0) + f1) + f2)))] []))
  refine inner f2 ((0 + f0) + f1) (((0 + f0) + f1) + f2) (2 : Int32) (Int32.ofNat f2) (0 : Int32) (own_fill P (own_fill P (fun _ => (0 : Int32)) 0 f0 (0 : Int32)) (0 + f0) f1 (0 : Int32)) T4 _ h4 rfl (by omega) X4 e4 V4 K4 N4 Zl4 ?_
  intro pr5 T5 locs5 h5 X5 e5 V5 K5 N5 Zl5
  show own_Go p e below _ (T5.setTop (mkF m 67 #[.val (.ref ap), .val (.ref af), .val (.ref b1), .val (.int (Int32.ofNat (((0 + f0) + f1) + f2))), .val (.ref af), .val (.int (4 : Int32)), .val (.int (2 : Int32)), .val (.int (Int32.ofNat f2)), .val (.int pr5), .val (.int (Int32.ofNat (((0 + f0) + f1) + f2)))] []))
  refine own_go (XS.iinc X5.here hx rfl (hb hby own_ofPositions_67) rfl (l' := #[.val (.ref ap), .val (.ref af), .val (.ref b1), .val (.int (Int32.ofNat (((0 + f0) + f1) + f2))), .val (.ref af), .val (.int (4 : Int32)), .val (.int ((2 : Int32) + (1 : Int32))), .val (.int (Int32.ofNat f2)), .val (.int pr5), .val (.int (Int32.ofNat (((0 + f0) + f1) + f2)))]) rfl (Steps.refl _)) ?_
  show own_Go p e below _ (T5.setTop (mkF m 70 #[.val (.ref ap), .val (.ref af), .val (.ref b1), .val (.int (Int32.ofNat (((0 + f0) + f1) + f2))), .val (.ref af), .val (.int (4 : Int32)), .val (.int ((2 : Int32) + (1 : Int32))), .val (.int (Int32.ofNat f2)), .val (.int pr5), .val (.int (Int32.ofNat (((0 + f0) + f1) + f2)))] []))
  refine own_go (XS.goto X5.here hx rfl (pc0 := 70) (pc' := 18) rfl (hb hby own_ofPositions_70) (by decide) (by decide) (Steps.refl _)) ?_
  show own_Go p e below _ (T5.setTop (mkF m 18 #[.val (.ref ap), .val (.ref af), .val (.ref b1), .val (.int (Int32.ofNat (((0 + f0) + f1) + f2))), .val (.ref af), .val (.int (4 : Int32)), .val (.int ((2 : Int32) + (1 : Int32))), .val (.int (Int32.ofNat f2)), .val (.int pr5), .val (.int (Int32.ofNat (((0 + f0) + f1) + f2)))] []))
  show own_Go p e below _ (T5.setTop (mkF m 18 #[.val (.ref ap), .val (.ref af), .val (.ref b1), .val (.int (Int32.ofNat (((0 + f0) + f1) + f2))), .val (.ref af), .val (.int (4 : Int32)), .val (.int ((2 : Int32) + (1 : Int32))), .val (.int (Int32.ofNat f2)), .val (.int pr5), .val (.int (Int32.ofNat (((0 + f0) + f1) + f2)))] []))
  show own_Go p e below _ (T5.setTop (mkF m 18 #[.val (.ref ap), .val (.ref af), .val (.ref b1), .val (.int (Int32.ofNat (((0 + f0) + f1) + f2))), .val (.ref af), .val (.int (4 : Int32)), .val (.int (3 : Int32)), .val (.int (Int32.ofNat f2)), .val (.int pr5), .val (.int (Int32.ofNat (((0 + f0) + f1) + f2)))] []))
  refine own_go (XS.iload X5.here hx rfl (hb hby own_ofPositions_18) rfl (Steps.refl _)) ?_
  show own_Go p e below _ (T5.setTop (mkF m 20 #[.val (.ref ap), .val (.ref af), .val (.ref b1), .val (.int (Int32.ofNat (((0 + f0) + f1) + f2))), .val (.ref af), .val (.int (4 : Int32)), .val (.int (3 : Int32)), .val (.int (Int32.ofNat f2)), .val (.int pr5), .val (.int (Int32.ofNat (((0 + f0) + f1) + f2)))] [(.int (3 : Int32))]))
  refine own_go (XS.iload X5.here hx rfl (hb hby own_ofPositions_20) rfl (Steps.refl _)) ?_
  show own_Go p e below _ (T5.setTop (mkF m 22 #[.val (.ref ap), .val (.ref af), .val (.ref b1), .val (.int (Int32.ofNat (((0 + f0) + f1) + f2))), .val (.ref af), .val (.int (4 : Int32)), .val (.int (3 : Int32)), .val (.int (Int32.ofNat f2)), .val (.int pr5), .val (.int (Int32.ofNat (((0 + f0) + f1) + f2)))] [(.int (4 : Int32)), (.int (3 : Int32))]))
  refine own_go (XS.icmpNo X5.here hx rfl (hb hby own_ofPositions_22) rfl (tlt (by decide : ((3 : Int32) < (4 : Int32)))).2.1 (Steps.refl _)) ?_
  show own_Go p e below _ (T5.setTop (mkF m 25 #[.val (.ref ap), .val (.ref af), .val (.ref b1), .val (.int (Int32.ofNat (((0 + f0) + f1) + f2))), .val (.ref af), .val (.int (4 : Int32)), .val (.int (3 : Int32)), .val (.int (Int32.ofNat f2)), .val (.int pr5), .val (.int (Int32.ofNat (((0 + f0) + f1) + f2)))] []))
  refine own_go (XS.aload X5.here hx rfl (hb hby own_ofPositions_25) rfl rfl (Steps.refl _)) ?_
  show own_Go p e below _ (T5.setTop (mkF m 27 #[.val (.ref ap), .val (.ref af), .val (.ref b1), .val (.int (Int32.ofNat (((0 + f0) + f1) + f2))), .val (.ref af), .val (.int (4 : Int32)), .val (.int (3 : Int32)), .val (.int (Int32.ofNat f2)), .val (.int pr5), .val (.int (Int32.ofNat (((0 + f0) + f1) + f2)))] [(.ref af)]))
  refine own_go (XS.iload X5.here hx rfl (hb hby own_ofPositions_27) rfl (Steps.refl _)) ?_
  show own_Go p e below _ (T5.setTop (mkF m 29 #[.val (.ref ap), .val (.ref af), .val (.ref b1), .val (.int (Int32.ofNat (((0 + f0) + f1) + f2))), .val (.ref af), .val (.int (4 : Int32)), .val (.int (3 : Int32)), .val (.int (Int32.ofNat f2)), .val (.int pr5), .val (.int (Int32.ofNat (((0 + f0) + f1) + f2)))] [(.int (3 : Int32)), (.ref af)]))
  refine own_go (own_ldI X5 hx hZ e5 (Vf.keep K5 nin0) (by decide) (by decide) (v := (Int32.ofNat f3)) rfl (g := (mkF m 29 #[.val (.ref ap), .val (.ref af), .val (.ref b1), .val (.int (Int32.ofNat (((0 + f0) + f1) + f2))), .val (.ref af), .val (.int (4 : Int32)), .val (.int (3 : Int32)), .val (.int (Int32.ofNat f2)), .val (.int pr5), .val (.int (Int32.ofNat (((0 + f0) + f1) + f2)))] [(.int (3 : Int32)), (.ref af)])) rfl rfl (hb hby own_ofPositions_29)) ?_
  show own_Go p e below _ (T5.setTop (mkF m 30 #[.val (.ref ap), .val (.ref af), .val (.ref b1), .val (.int (Int32.ofNat (((0 + f0) + f1) + f2))), .val (.ref af), .val (.int (4 : Int32)), .val (.int (3 : Int32)), .val (.int (Int32.ofNat f2)), .val (.int pr5), .val (.int (Int32.ofNat (((0 + f0) + f1) + f2)))] [(.int (Int32.ofNat f3))]))
  refine own_go (XS.istore X5.here hx rfl (hb hby own_ofPositions_30) rfl (l' := #[.val (.ref ap), .val (.ref af), .val (.ref b1), .val (.int (Int32.ofNat (((0 + f0) + f1) + f2))), .val (.ref af), .val (.int (4 : Int32)), .val (.int (3 : Int32)), .val (.int (Int32.ofNat f3)), .val (.int pr5), .val (.int (Int32.ofNat (((0 + f0) + f1) + f2)))]) rfl (Steps.refl _)) ?_
  show own_Go p e below _ (T5.setTop (mkF m 32 #[.val (.ref ap), .val (.ref af), .val (.ref b1), .val (.int (Int32.ofNat (((0 + f0) + f1) + f2))), .val (.ref af), .val (.int (4 : Int32)), .val (.int (3 : Int32)), .val (.int (Int32.ofNat f3)), .val (.int pr5), .val (.int (Int32.ofNat (((0 + f0) + f1) + f2)))] []))
  refine own_go (XS.iconst X5.here hx rfl (hb hby own_ofPositions_32) (Steps.refl _)) ?_
  show own_Go p e below _ (T5.setTop (mkF m 33 #[.val (.ref ap), .val (.ref af), .val (.ref b1), .val (.int (Int32.ofNat (((0 + f0) + f1) + f2))), .val (.ref af), .val (.int (4 : Int32)), .val (.int (3 : Int32)), .val (.int (Int32.ofNat f3)), .val (.int pr5), .val (.int (Int32.ofNat (((0 + f0) + f1) + f2)))] [(.int (0 : Int32))]))
  refine own_go (XS.istore X5.here hx rfl (hb hby own_ofPositions_33) rfl (l' := #[.val (.ref ap), .val (.ref af), .val (.ref b1), .val (.int (Int32.ofNat (((0 + f0) + f1) + f2))), .val (.ref af), .val (.int (4 : Int32)), .val (.int (3 : Int32)), .val (.int (Int32.ofNat f3)), .val (.int (0 : Int32)), .val (.int (Int32.ofNat (((0 + f0) + f1) + f2)))]) rfl (Steps.refl _)) ?_
  show own_Go p e below _ (T5.setTop (mkF m 35 #[.val (.ref ap), .val (.ref af), .val (.ref b1), .val (.int (Int32.ofNat (((0 + f0) + f1) + f2))), .val (.ref af), .val (.int (4 : Int32)), .val (.int (3 : Int32)), .val (.int (Int32.ofNat f3)), .val (.int (0 : Int32)), .val (.int (Int32.ofNat (((0 + f0) + f1) + f2)))] []))
  refine own_go (XS.iloadN X5.here hx rfl (hb hby own_ofPositions_35) rfl (Steps.refl _)) ?_
  show own_Go p e below _ (T5.setTop (mkF m 36 #[.val (.ref ap), .val (.ref af), .val (.ref b1), .val (.int (Int32.ofNat (((0 + f0) + f1) + f2))), .val (.ref af), .val (.int (4 : Int32)), .val (.int (3 : Int32)), .val (.int (Int32.ofNat f3)), .val (.int (0 : Int32)), .val (.int (Int32.ofNat (((0 + f0) + f1) + f2)))] [(.int (Int32.ofNat (((0 + f0) + f1) + f2)))]))
  refine own_go (XS.iload X5.here hx rfl (hb hby own_ofPositions_36) rfl (Steps.refl _)) ?_
  show own_Go p e below _ (T5.setTop (mkF m 38 #[.val (.ref ap), .val (.ref af), .val (.ref b1), .val (.int (Int32.ofNat (((0 + f0) + f1) + f2))), .val (.ref af), .val (.int (4 : Int32)), .val (.int (3 : Int32)), .val (.int (Int32.ofNat f3)), .val (.int (0 : Int32)), .val (.int (Int32.ofNat (((0 + f0) + f1) + f2)))] [(.int (Int32.ofNat f3)), (.int (Int32.ofNat (((0 + f0) + f1) + f2)))]))
  refine own_go (XS.iadd X5.here hx rfl (hb hby own_ofPositions_38) rfl (Steps.refl _)) ?_
  show own_Go p e below _ (T5.setTop (mkF m 39 #[.val (.ref ap), .val (.ref af), .val (.ref b1), .val (.int (Int32.ofNat (((0 + f0) + f1) + f2))), .val (.ref af), .val (.int (4 : Int32)), .val (.int (3 : Int32)), .val (.int (Int32.ofNat f3)), .val (.int (0 : Int32)), .val (.int (Int32.ofNat (((0 + f0) + f1) + f2)))] [(.int ((Int32.ofNat (((0 + f0) + f1) + f2)) + (Int32.ofNat f3)))]))
  refine own_go (XS.istore X5.here hx rfl (hb hby own_ofPositions_39) rfl (l' := #[.val (.ref ap), .val (.ref af), .val (.ref b1), .val (.int (Int32.ofNat (((0 + f0) + f1) + f2))), .val (.ref af), .val (.int (4 : Int32)), .val (.int (3 : Int32)), .val (.int (Int32.ofNat f3)), .val (.int (0 : Int32)), .val (.int ((Int32.ofNat (((0 + f0) + f1) + f2)) + (Int32.ofNat f3)))]) rfl (Steps.refl _)) ?_
  show own_Go p e below _ (T5.setTop (mkF m 41 #[.val (.ref ap), .val (.ref af), .val (.ref b1), .val (.int (Int32.ofNat (((0 + f0) + f1) + f2))), .val (.ref af), .val (.int (4 : Int32)), .val (.int (3 : Int32)), .val (.int (Int32.ofNat f3)), .val (.int (0 : Int32)), .val (.int ((Int32.ofNat (((0 + f0) + f1) + f2)) + (Int32.ofNat f3)))] []))
  rw [own_add (((0 + f0) + f1) + f2) f3]
  show own_Go p e below _ (T5.setTop (mkF m 41 #[.val (.ref ap), .val (.ref af), .val (.ref b1), .val (.int (Int32.ofNat (((0 + f0) + f1) + f2))), .val (.ref af), .val (.int (4 : Int32)), .val (.int (3 : Int32)), .val (.int (Int32.ofNat f3)), .val (.int (0 : Int32)), .val (.int (Int32.ofNat ((((0 + f0) + f1) + f2) + f3)))] []))
  refine inner f3 (((0 + f0) + f1) + f2) ((((0 + f0) + f1) + f2) + f3) (3 : Int32) (Int32.ofNat f3) (0 : Int32) (own_fill P (own_fill P (own_fill P (fun _ => (0 : Int32)) 0 f0 (0 : Int32)) (0 + f0) f1 (0 : Int32)) ((0 + f0) + f1) f2 (0 : Int32)) T5 _ h5 rfl (by omega) X5 e5 V5 K5 N5 Zl5 ?_
  intro pr6 T6 locs6 h6 X6 e6 V6 K6 N6 Zl6
  show own_Go p e below _ (T6.setTop (mkF m 67 #[.val (.ref ap), .val (.ref af), .val (.ref b1), .val (.int (Int32.ofNat ((((0 + f0) + f1) + f2) + f3))), .val (.ref af), .val (.int (4 : Int32)), .val (.int (3 : Int32)), .val (.int (Int32.ofNat f3)), .val (.int pr6), .val (.int (Int32.ofNat ((((0 + f0) + f1) + f2) + f3)))] []))
  refine own_go (XS.iinc X6.here hx rfl (hb hby own_ofPositions_67) rfl (l' := #[.val (.ref ap), .val (.ref af), .val (.ref b1), .val (.int (Int32.ofNat ((((0 + f0) + f1) + f2) + f3))), .val (.ref af), .val (.int (4 : Int32)), .val (.int ((3 : Int32) + (1 : Int32))), .val (.int (Int32.ofNat f3)), .val (.int pr6), .val (.int (Int32.ofNat ((((0 + f0) + f1) + f2) + f3)))]) rfl (Steps.refl _)) ?_
  show own_Go p e below _ (T6.setTop (mkF m 70 #[.val (.ref ap), .val (.ref af), .val (.ref b1), .val (.int (Int32.ofNat ((((0 + f0) + f1) + f2) + f3))), .val (.ref af), .val (.int (4 : Int32)), .val (.int ((3 : Int32) + (1 : Int32))), .val (.int (Int32.ofNat f3)), .val (.int pr6), .val (.int (Int32.ofNat ((((0 + f0) + f1) + f2) + f3)))] []))
  refine own_go (XS.goto X6.here hx rfl (pc0 := 70) (pc' := 18) rfl (hb hby own_ofPositions_70) (by decide) (by decide) (Steps.refl _)) ?_
  show own_Go p e below _ (T6.setTop (mkF m 18 #[.val (.ref ap), .val (.ref af), .val (.ref b1), .val (.int (Int32.ofNat ((((0 + f0) + f1) + f2) + f3))), .val (.ref af), .val (.int (4 : Int32)), .val (.int ((3 : Int32) + (1 : Int32))), .val (.int (Int32.ofNat f3)), .val (.int pr6), .val (.int (Int32.ofNat ((((0 + f0) + f1) + f2) + f3)))] []))
  show own_Go p e below _ (T6.setTop (mkF m 18 #[.val (.ref ap), .val (.ref af), .val (.ref b1), .val (.int (Int32.ofNat ((((0 + f0) + f1) + f2) + f3))), .val (.ref af), .val (.int (4 : Int32)), .val (.int ((3 : Int32) + (1 : Int32))), .val (.int (Int32.ofNat f3)), .val (.int pr6), .val (.int (Int32.ofNat ((((0 + f0) + f1) + f2) + f3)))] []))
  show own_Go p e below _ (T6.setTop (mkF m 18 #[.val (.ref ap), .val (.ref af), .val (.ref b1), .val (.int (Int32.ofNat ((((0 + f0) + f1) + f2) + f3))), .val (.ref af), .val (.int (4 : Int32)), .val (.int (4 : Int32)), .val (.int (Int32.ofNat f3)), .val (.int pr6), .val (.int (Int32.ofNat ((((0 + f0) + f1) + f2) + f3)))] []))
  refine own_go (XS.iload X6.here hx rfl (hb hby own_ofPositions_18) rfl (Steps.refl _)) ?_
  show own_Go p e below _ (T6.setTop (mkF m 20 #[.val (.ref ap), .val (.ref af), .val (.ref b1), .val (.int (Int32.ofNat ((((0 + f0) + f1) + f2) + f3))), .val (.ref af), .val (.int (4 : Int32)), .val (.int (4 : Int32)), .val (.int (Int32.ofNat f3)), .val (.int pr6), .val (.int (Int32.ofNat ((((0 + f0) + f1) + f2) + f3)))] [(.int (4 : Int32))]))
  refine own_go (XS.iload X6.here hx rfl (hb hby own_ofPositions_20) rfl (Steps.refl _)) ?_
  show own_Go p e below _ (T6.setTop (mkF m 22 #[.val (.ref ap), .val (.ref af), .val (.ref b1), .val (.int (Int32.ofNat ((((0 + f0) + f1) + f2) + f3))), .val (.ref af), .val (.int (4 : Int32)), .val (.int (4 : Int32)), .val (.int (Int32.ofNat f3)), .val (.int pr6), .val (.int (Int32.ofNat ((((0 + f0) + f1) + f2) + f3)))] [(.int (4 : Int32)), (.int (4 : Int32))]))
  refine own_go (XS.icmpYes X6.here hx rfl (pc0 := 22) (pc' := 73) rfl (hb hby own_ofPositions_22) rfl (flt (by decide : ¬ ((4 : Int32) < (4 : Int32)))).2.1 (by decide) (by decide) (Steps.refl _)) ?_
  show own_Go p e below _ (T6.setTop (mkF m 73 #[.val (.ref ap), .val (.ref af), .val (.ref b1), .val (.int (Int32.ofNat ((((0 + f0) + f1) + f2) + f3))), .val (.ref af), .val (.int (4 : Int32)), .val (.int (4 : Int32)), .val (.int (Int32.ofNat f3)), .val (.int pr6), .val (.int (Int32.ofNat ((((0 + f0) + f1) + f2) + f3)))] []))
  refine own_go (XS.aloadN X6.here hx rfl (hb hby own_ofPositions_73) rfl rfl (Steps.refl _)) ?_
  show own_Go p e below _ (T6.setTop (mkF m 74 #[.val (.ref ap), .val (.ref af), .val (.ref b1), .val (.int (Int32.ofNat ((((0 + f0) + f1) + f2) + f3))), .val (.ref af), .val (.int (4 : Int32)), .val (.int (4 : Int32)), .val (.int (Int32.ofNat f3)), .val (.int pr6), .val (.int (Int32.ofNat ((((0 + f0) + f1) + f2) + f3)))] [(.ref b1)]))
  have hfin : own_vs (own_fill P (own_fill P (own_fill P (own_fill P (fun _ => (0 : Int32)) 0 f0 (0 : Int32)) (0 + f0) f1 (0 : Int32)) ((0 + f0) + f1) f2 (0 : Int32)) (((0 + f0) + f1) + f2) f3 (0 : Int32)) = own_vs (own_gaps P f0 f1 f2 f3) := by simp [own_gaps]
  rw [hfin] at V6
  exact own_retA X6 hx hlk e6 Bd.returns rfl (hb hby own_ofPositions_74) ⟨b1, c1, rfl, N6, K6, sz_b1, V6⟩ (by decide) (by decide)
theorem own_f6 : parseMethodDescriptor "([I[I)[I" = some ⟨[(.array .int), (.array .int)], some (.array .int)⟩ := by decide +kernel
theorem own_f7 : parseMethodDescriptor "(IIIIII)I" = some ⟨[.int, .int, .int, .int, .int, .int], some .int⟩ := by decide +kernel
theorem own_f8 (m : MethodId) (x0 : Int32) (x1 : Int32) (x2 : Int32) (x3 : Int32) (x4 : Int32) : entryFrame m #[(.int x0), (.int x1), (.int x2), (.int x3), (.int x4)] maxLocals = mkF m 0 #[.val (.int x0), .val (.int x1), .val (.int x2), .val (.int x3), .val (.int x4), .unset, .unset, .unset, .unset, .unset, .unset, .unset, .unset, .unset, .unset] [] := by first | (simp [entryFrame, mkF, argsToLocals, Value.category, maxLocals]; done) | rfl
set_option maxRecDepth 65536 in
set_option maxHeartbeats 40000000 in
theorem rm_law (l : Launch) (Z : State) (a0 : Array Value) (hw : ∀ d ∈ tables_1, d.before a0 Z = true) (va vb vc vd sp : Int32) (h0 : Heap) (n0 : Nat) (Z0 : n0 ≤ h0.size)  :
    own_MetL l Z (#[(.int va), (.int vb), (.int vc), (.int vd), (.int sp)]) h0 (fun v h L => v = some (.int 1) ∧ Fr n0 L) := by
  refine MetFree.of_bodySF (plainFor_of_name own_f1) hisR ?_
  intro p e s m args below meth c s₁ Bd hml0 hP hK
  obtain ⟨rfl, hZ, hh⟩ := hP
  have hx := Bd.exec
  have hby := Bd.bytes
  have hlk : meth.locks = false := Bd.notSynchronized
  have hml : c.maxLocals = 15 := hml0
  have hown : s.vm.findClass "com/example/lexigap/lexigap/GapsOfPositionsPinLaw" = some m.cls := findClass_of_methodNamed Bd.named
  have hnm := (name_of_methodNamed Bd.named Bd.method).1
  have X0 : Stand p l e room_1 s m #[(.int va), (.int vb), (.int vc), (.int vd), (.int sp)] below meth c s₁ [] 0 0 := Stand.of_body Bd
  have e0 : s₁.heap = h0 := by rw [← hh, Bd.state]; rfl
  show own_Go p e below (own_G s (fun v h L => v = some (.int 1) ∧ Fr n0 L) room_1.cells room_1.slots) (s₁.setTop (entryFrame m #[(.int va), (.int vb), (.int vc), (.int vd), (.int sp)] maxLocals))
  rw [own_f8]
  show own_Go p e below _ (s₁.setTop (mkF m 0 #[.val (.int va), .val (.int vb), .val (.int vc), .val (.int vd), .val (.int sp), .unset, .unset, .unset, .unset, .unset, .unset, .unset, .unset, .unset, .unset] []))
  refine own_go (XS.iload X0.here hx rfl (hb hby at_0) rfl (Steps.refl _)) ?_
  show own_Go p e below _ (s₁.setTop (mkF m 2 #[.val (.int va), .val (.int vb), .val (.int vc), .val (.int vd), .val (.int sp), .unset, .unset, .unset, .unset, .unset, .unset, .unset, .unset, .unset, .unset] [(.int sp)]))
  refine own_go (XS.bipush X0.here hx rfl (hb hby at_2) (Steps.refl _)) ?_
  show own_Go p e below _ (s₁.setTop (mkF m 4 #[.val (.int va), .val (.int vb), .val (.int vc), .val (.int vd), .val (.int sp), .unset, .unset, .unset, .unset, .unset, .unset, .unset, .unset, .unset, .unset] [(.int (7 : Int32)), (.int sp)]))
  refine own_go (XS.iand X0.here hx rfl (hb hby at_4) rfl (Steps.refl _)) ?_
  show own_Go p e below _ (s₁.setTop (mkF m 5 #[.val (.int va), .val (.int vb), .val (.int vc), .val (.int vd), .val (.int sp), .unset, .unset, .unset, .unset, .unset, .unset, .unset, .unset, .unset, .unset] [(.int (sp &&& (7 : Int32)))]))
  refine own_go (XS.iconst X0.here hx rfl (hb hby at_5) (Steps.refl _)) ?_
  show own_Go p e below _ (s₁.setTop (mkF m 6 #[.val (.int va), .val (.int vb), .val (.int vc), .val (.int vd), .val (.int sp), .unset, .unset, .unset, .unset, .unset, .unset, .unset, .unset, .unset, .unset] [(.int (5 : Int32)), (.int (sp &&& (7 : Int32)))]))
  refine own_go (iremM X0 hx rfl (hb hby at_6) rfl (by decide) (Steps.refl _)) ?_
  show own_Go p e below _ (s₁.setTop (mkF m 7 #[.val (.int va), .val (.int vb), .val (.int vc), .val (.int vd), .val (.int sp), .unset, .unset, .unset, .unset, .unset, .unset, .unset, .unset, .unset, .unset] [(.int ((sp &&& (7 : Int32)) % (5 : Int32)))]))
  obtain ⟨f0, lt_f0, e_f0⟩ := own_split (sp &&& (7 : Int32)) (5 : Int32) 5 (by omega) (by omega) (own_m7 _) (rfl)
  rw [e_f0]
  show own_Go p e below _ (s₁.setTop (mkF m 7 #[.val (.int va), .val (.int vb), .val (.int vc), .val (.int vd), .val (.int sp), .unset, .unset, .unset, .unset, .unset, .unset, .unset, .unset, .unset, .unset] [(.int (Int32.ofNat f0))]))
  refine own_go (XS.istore X0.here hx rfl (hb hby at_7) rfl (l' := #[.val (.int va), .val (.int vb), .val (.int vc), .val (.int vd), .val (.int sp), .val (.int (Int32.ofNat f0)), .unset, .unset, .unset, .unset, .unset, .unset, .unset, .unset, .unset]) rfl (Steps.refl _)) ?_
  show own_Go p e below _ (s₁.setTop (mkF m 9 #[.val (.int va), .val (.int vb), .val (.int vc), .val (.int vd), .val (.int sp), .val (.int (Int32.ofNat f0)), .unset, .unset, .unset, .unset, .unset, .unset, .unset, .unset, .unset] []))
  refine own_go (XS.iload X0.here hx rfl (hb hby at_9) rfl (Steps.refl _)) ?_
  show own_Go p e below _ (s₁.setTop (mkF m 11 #[.val (.int va), .val (.int vb), .val (.int vc), .val (.int vd), .val (.int sp), .val (.int (Int32.ofNat f0)), .unset, .unset, .unset, .unset, .unset, .unset, .unset, .unset, .unset] [(.int sp)]))
  refine own_go (XS.iconst X0.here hx rfl (hb hby at_11) (Steps.refl _)) ?_
  show own_Go p e below _ (s₁.setTop (mkF m 12 #[.val (.int va), .val (.int vb), .val (.int vc), .val (.int vd), .val (.int sp), .val (.int (Int32.ofNat f0)), .unset, .unset, .unset, .unset, .unset, .unset, .unset, .unset, .unset] [(.int (3 : Int32)), (.int sp)]))
  refine own_go (XS.iushr X0.here hx rfl (hb hby at_12) rfl (Steps.refl _)) ?_
  show own_Go p e below _ (s₁.setTop (mkF m 13 #[.val (.int va), .val (.int vb), .val (.int vc), .val (.int vd), .val (.int sp), .val (.int (Int32.ofNat f0)), .unset, .unset, .unset, .unset, .unset, .unset, .unset, .unset, .unset] [(.int ((sp.toUInt32 >>> ((3 : Int32) &&& 31).toUInt32).toInt32))]))
  refine own_go (XS.bipush X0.here hx rfl (hb hby at_13) (Steps.refl _)) ?_
  show own_Go p e below _ (s₁.setTop (mkF m 15 #[.val (.int va), .val (.int vb), .val (.int vc), .val (.int vd), .val (.int sp), .val (.int (Int32.ofNat f0)), .unset, .unset, .unset, .unset, .unset, .unset, .unset, .unset, .unset] [(.int (7 : Int32)), (.int ((sp.toUInt32 >>> ((3 : Int32) &&& 31).toUInt32).toInt32))]))
  refine own_go (XS.iand X0.here hx rfl (hb hby at_15) rfl (Steps.refl _)) ?_
  show own_Go p e below _ (s₁.setTop (mkF m 16 #[.val (.int va), .val (.int vb), .val (.int vc), .val (.int vd), .val (.int sp), .val (.int (Int32.ofNat f0)), .unset, .unset, .unset, .unset, .unset, .unset, .unset, .unset, .unset] [(.int (((sp.toUInt32 >>> ((3 : Int32) &&& 31).toUInt32).toInt32) &&& (7 : Int32)))]))
  refine own_go (XS.iconst X0.here hx rfl (hb hby at_16) (Steps.refl _)) ?_
  show own_Go p e below _ (s₁.setTop (mkF m 17 #[.val (.int va), .val (.int vb), .val (.int vc), .val (.int vd), .val (.int sp), .val (.int (Int32.ofNat f0)), .unset, .unset, .unset, .unset, .unset, .unset, .unset, .unset, .unset] [(.int (5 : Int32)), (.int (((sp.toUInt32 >>> ((3 : Int32) &&& 31).toUInt32).toInt32) &&& (7 : Int32)))]))
  refine own_go (XS.iload X0.here hx rfl (hb hby at_17) rfl (Steps.refl _)) ?_
  show own_Go p e below _ (s₁.setTop (mkF m 19 #[.val (.int va), .val (.int vb), .val (.int vc), .val (.int vd), .val (.int sp), .val (.int (Int32.ofNat f0)), .unset, .unset, .unset, .unset, .unset, .unset, .unset, .unset, .unset] [(.int (Int32.ofNat f0)), (.int (5 : Int32)), (.int (((sp.toUInt32 >>> ((3 : Int32) &&& 31).toUInt32).toInt32) &&& (7 : Int32)))]))
  refine own_go (XS.isub X0.here hx rfl (hb hby at_19) rfl (Steps.refl _)) ?_
  show own_Go p e below _ (s₁.setTop (mkF m 20 #[.val (.int va), .val (.int vb), .val (.int vc), .val (.int vd), .val (.int sp), .val (.int (Int32.ofNat f0)), .unset, .unset, .unset, .unset, .unset, .unset, .unset, .unset, .unset] [(.int ((5 : Int32) - (Int32.ofNat f0))), (.int (((sp.toUInt32 >>> ((3 : Int32) &&& 31).toUInt32).toInt32) &&& (7 : Int32)))]))
  rw [show (5 : Int32) - Int32.ofNat f0 = Int32.ofNat (5 - f0) from own_sub (i := 5) (by omega)]
  show own_Go p e below _ (s₁.setTop (mkF m 20 #[.val (.int va), .val (.int vb), .val (.int vc), .val (.int vd), .val (.int sp), .val (.int (Int32.ofNat f0)), .unset, .unset, .unset, .unset, .unset, .unset, .unset, .unset, .unset] [(.int (Int32.ofNat (5 - f0))), (.int (((sp.toUInt32 >>> ((3 : Int32) &&& 31).toUInt32).toInt32) &&& (7 : Int32)))]))
  have nz1 : ¬ Int32.ofNat (5 - f0) = (0 : Int32) := own_nz (by omega) (by omega)
  refine own_go (iremM X0 hx rfl (hb hby at_20) rfl nz1 (Steps.refl _)) ?_
  show own_Go p e below _ (s₁.setTop (mkF m 21 #[.val (.int va), .val (.int vb), .val (.int vc), .val (.int vd), .val (.int sp), .val (.int (Int32.ofNat f0)), .unset, .unset, .unset, .unset, .unset, .unset, .unset, .unset, .unset] [(.int ((((sp.toUInt32 >>> ((3 : Int32) &&& 31).toUInt32).toInt32) &&& (7 : Int32)) % (Int32.ofNat (5 - f0))))]))
  obtain ⟨f1, lt_f1, e_f1⟩ := own_split (((sp.toUInt32 >>> ((3 : Int32) &&& 31).toUInt32).toInt32) &&& (7 : Int32)) (Int32.ofNat (5 - f0)) (5 - f0) (by omega) (by omega) (own_m7 _) (rfl)
  rw [e_f1]
  show own_Go p e below _ (s₁.setTop (mkF m 21 #[.val (.int va), .val (.int vb), .val (.int vc), .val (.int vd), .val (.int sp), .val (.int (Int32.ofNat f0)), .unset, .unset, .unset, .unset, .unset, .unset, .unset, .unset, .unset] [(.int (Int32.ofNat f1))]))
  refine own_go (XS.istore X0.here hx rfl (hb hby at_21) rfl (l' := #[.val (.int va), .val (.int vb), .val (.int vc), .val (.int vd), .val (.int sp), .val (.int (Int32.ofNat f0)), .val (.int (Int32.ofNat f1)), .unset, .unset, .unset, .unset, .unset, .unset, .unset, .unset]) rfl (Steps.refl _)) ?_
  show own_Go p e below _ (s₁.setTop (mkF m 23 #[.val (.int va), .val (.int vb), .val (.int vc), .val (.int vd), .val (.int sp), .val (.int (Int32.ofNat f0)), .val (.int (Int32.ofNat f1)), .unset, .unset, .unset, .unset, .unset, .unset, .unset, .unset] []))
  refine own_go (XS.iload X0.here hx rfl (hb hby at_23) rfl (Steps.refl _)) ?_
  show own_Go p e below _ (s₁.setTop (mkF m 25 #[.val (.int va), .val (.int vb), .val (.int vc), .val (.int vd), .val (.int sp), .val (.int (Int32.ofNat f0)), .val (.int (Int32.ofNat f1)), .unset, .unset, .unset, .unset, .unset, .unset, .unset, .unset] [(.int sp)]))
  refine own_go (XS.bipush X0.here hx rfl (hb hby at_25) (Steps.refl _)) ?_
  show own_Go p e below _ (s₁.setTop (mkF m 27 #[.val (.int va), .val (.int vb), .val (.int vc), .val (.int vd), .val (.int sp), .val (.int (Int32.ofNat f0)), .val (.int (Int32.ofNat f1)), .unset, .unset, .unset, .unset, .unset, .unset, .unset, .unset] [(.int (6 : Int32)), (.int sp)]))
  refine own_go (XS.iushr X0.here hx rfl (hb hby at_27) rfl (Steps.refl _)) ?_
  show own_Go p e below _ (s₁.setTop (mkF m 28 #[.val (.int va), .val (.int vb), .val (.int vc), .val (.int vd), .val (.int sp), .val (.int (Int32.ofNat f0)), .val (.int (Int32.ofNat f1)), .unset, .unset, .unset, .unset, .unset, .unset, .unset, .unset] [(.int ((sp.toUInt32 >>> ((6 : Int32) &&& 31).toUInt32).toInt32))]))
  refine own_go (XS.bipush X0.here hx rfl (hb hby at_28) (Steps.refl _)) ?_
  show own_Go p e below _ (s₁.setTop (mkF m 30 #[.val (.int va), .val (.int vb), .val (.int vc), .val (.int vd), .val (.int sp), .val (.int (Int32.ofNat f0)), .val (.int (Int32.ofNat f1)), .unset, .unset, .unset, .unset, .unset, .unset, .unset, .unset] [(.int (7 : Int32)), (.int ((sp.toUInt32 >>> ((6 : Int32) &&& 31).toUInt32).toInt32))]))
  refine own_go (XS.iand X0.here hx rfl (hb hby at_30) rfl (Steps.refl _)) ?_
  show own_Go p e below _ (s₁.setTop (mkF m 31 #[.val (.int va), .val (.int vb), .val (.int vc), .val (.int vd), .val (.int sp), .val (.int (Int32.ofNat f0)), .val (.int (Int32.ofNat f1)), .unset, .unset, .unset, .unset, .unset, .unset, .unset, .unset] [(.int (((sp.toUInt32 >>> ((6 : Int32) &&& 31).toUInt32).toInt32) &&& (7 : Int32)))]))
  refine own_go (XS.iconst X0.here hx rfl (hb hby at_31) (Steps.refl _)) ?_
  show own_Go p e below _ (s₁.setTop (mkF m 32 #[.val (.int va), .val (.int vb), .val (.int vc), .val (.int vd), .val (.int sp), .val (.int (Int32.ofNat f0)), .val (.int (Int32.ofNat f1)), .unset, .unset, .unset, .unset, .unset, .unset, .unset, .unset] [(.int (5 : Int32)), (.int (((sp.toUInt32 >>> ((6 : Int32) &&& 31).toUInt32).toInt32) &&& (7 : Int32)))]))
  refine own_go (XS.iload X0.here hx rfl (hb hby at_32) rfl (Steps.refl _)) ?_
  show own_Go p e below _ (s₁.setTop (mkF m 34 #[.val (.int va), .val (.int vb), .val (.int vc), .val (.int vd), .val (.int sp), .val (.int (Int32.ofNat f0)), .val (.int (Int32.ofNat f1)), .unset, .unset, .unset, .unset, .unset, .unset, .unset, .unset] [(.int (Int32.ofNat f0)), (.int (5 : Int32)), (.int (((sp.toUInt32 >>> ((6 : Int32) &&& 31).toUInt32).toInt32) &&& (7 : Int32)))]))
  refine own_go (XS.isub X0.here hx rfl (hb hby at_34) rfl (Steps.refl _)) ?_
  show own_Go p e below _ (s₁.setTop (mkF m 35 #[.val (.int va), .val (.int vb), .val (.int vc), .val (.int vd), .val (.int sp), .val (.int (Int32.ofNat f0)), .val (.int (Int32.ofNat f1)), .unset, .unset, .unset, .unset, .unset, .unset, .unset, .unset] [(.int ((5 : Int32) - (Int32.ofNat f0))), (.int (((sp.toUInt32 >>> ((6 : Int32) &&& 31).toUInt32).toInt32) &&& (7 : Int32)))]))
  refine own_go (XS.iload X0.here hx rfl (hb hby at_35) rfl (Steps.refl _)) ?_
  show own_Go p e below _ (s₁.setTop (mkF m 37 #[.val (.int va), .val (.int vb), .val (.int vc), .val (.int vd), .val (.int sp), .val (.int (Int32.ofNat f0)), .val (.int (Int32.ofNat f1)), .unset, .unset, .unset, .unset, .unset, .unset, .unset, .unset] [(.int (Int32.ofNat f1)), (.int ((5 : Int32) - (Int32.ofNat f0))), (.int (((sp.toUInt32 >>> ((6 : Int32) &&& 31).toUInt32).toInt32) &&& (7 : Int32)))]))
  refine own_go (XS.isub X0.here hx rfl (hb hby at_37) rfl (Steps.refl _)) ?_
  show own_Go p e below _ (s₁.setTop (mkF m 38 #[.val (.int va), .val (.int vb), .val (.int vc), .val (.int vd), .val (.int sp), .val (.int (Int32.ofNat f0)), .val (.int (Int32.ofNat f1)), .unset, .unset, .unset, .unset, .unset, .unset, .unset, .unset] [(.int (((5 : Int32) - (Int32.ofNat f0)) - (Int32.ofNat f1))), (.int (((sp.toUInt32 >>> ((6 : Int32) &&& 31).toUInt32).toInt32) &&& (7 : Int32)))]))
  rw [show (5 : Int32) - Int32.ofNat f0 - Int32.ofNat f1 = Int32.ofNat (5 - f0 - f1) by rw [show (5 : Int32) - Int32.ofNat f0 = Int32.ofNat (5 - f0) from own_sub (i := 5) (by omega), own_sub (by omega)]]
  show own_Go p e below _ (s₁.setTop (mkF m 38 #[.val (.int va), .val (.int vb), .val (.int vc), .val (.int vd), .val (.int sp), .val (.int (Int32.ofNat f0)), .val (.int (Int32.ofNat f1)), .unset, .unset, .unset, .unset, .unset, .unset, .unset, .unset] [(.int (Int32.ofNat (5 - f0 - f1))), (.int (((sp.toUInt32 >>> ((6 : Int32) &&& 31).toUInt32).toInt32) &&& (7 : Int32)))]))
  have nz2 : ¬ Int32.ofNat (5 - f0 - f1) = (0 : Int32) := own_nz (by omega) (by omega)
  refine own_go (iremM X0 hx rfl (hb hby at_38) rfl nz2 (Steps.refl _)) ?_
  show own_Go p e below _ (s₁.setTop (mkF m 39 #[.val (.int va), .val (.int vb), .val (.int vc), .val (.int vd), .val (.int sp), .val (.int (Int32.ofNat f0)), .val (.int (Int32.ofNat f1)), .unset, .unset, .unset, .unset, .unset, .unset, .unset, .unset] [(.int ((((sp.toUInt32 >>> ((6 : Int32) &&& 31).toUInt32).toInt32) &&& (7 : Int32)) % (Int32.ofNat (5 - f0 - f1))))]))
  obtain ⟨f2, lt_f2, e_f2⟩ := own_split (((sp.toUInt32 >>> ((6 : Int32) &&& 31).toUInt32).toInt32) &&& (7 : Int32)) (Int32.ofNat (5 - f0 - f1)) (5 - f0 - f1) (by omega) (by omega) (own_m7 _) (rfl)
  rw [e_f2]
  show own_Go p e below _ (s₁.setTop (mkF m 39 #[.val (.int va), .val (.int vb), .val (.int vc), .val (.int vd), .val (.int sp), .val (.int (Int32.ofNat f0)), .val (.int (Int32.ofNat f1)), .unset, .unset, .unset, .unset, .unset, .unset, .unset, .unset] [(.int (Int32.ofNat f2))]))
  refine own_go (XS.istore X0.here hx rfl (hb hby at_39) rfl (l' := #[.val (.int va), .val (.int vb), .val (.int vc), .val (.int vd), .val (.int sp), .val (.int (Int32.ofNat f0)), .val (.int (Int32.ofNat f1)), .val (.int (Int32.ofNat f2)), .unset, .unset, .unset, .unset, .unset, .unset, .unset]) rfl (Steps.refl _)) ?_
  show own_Go p e below _ (s₁.setTop (mkF m 41 #[.val (.int va), .val (.int vb), .val (.int vc), .val (.int vd), .val (.int sp), .val (.int (Int32.ofNat f0)), .val (.int (Int32.ofNat f1)), .val (.int (Int32.ofNat f2)), .unset, .unset, .unset, .unset, .unset, .unset, .unset] []))
  refine own_go (XS.iconst X0.here hx rfl (hb hby at_41) (Steps.refl _)) ?_
  show own_Go p e below _ (s₁.setTop (mkF m 42 #[.val (.int va), .val (.int vb), .val (.int vc), .val (.int vd), .val (.int sp), .val (.int (Int32.ofNat f0)), .val (.int (Int32.ofNat f1)), .val (.int (Int32.ofNat f2)), .unset, .unset, .unset, .unset, .unset, .unset, .unset] [(.int (4 : Int32))]))
  refine own_go (XS.iload X0.here hx rfl (hb hby at_42) rfl (Steps.refl _)) ?_
  show own_Go p e below _ (s₁.setTop (mkF m 44 #[.val (.int va), .val (.int vb), .val (.int vc), .val (.int vd), .val (.int sp), .val (.int (Int32.ofNat f0)), .val (.int (Int32.ofNat f1)), .val (.int (Int32.ofNat f2)), .unset, .unset, .unset, .unset, .unset, .unset, .unset] [(.int (Int32.ofNat f0)), (.int (4 : Int32))]))
  refine own_go (XS.isub X0.here hx rfl (hb hby at_44) rfl (Steps.refl _)) ?_
  show own_Go p e below _ (s₁.setTop (mkF m 45 #[.val (.int va), .val (.int vb), .val (.int vc), .val (.int vd), .val (.int sp), .val (.int (Int32.ofNat f0)), .val (.int (Int32.ofNat f1)), .val (.int (Int32.ofNat f2)), .unset, .unset, .unset, .unset, .unset, .unset, .unset] [(.int ((4 : Int32) - (Int32.ofNat f0)))]))
  refine own_go (XS.iload X0.here hx rfl (hb hby at_45) rfl (Steps.refl _)) ?_
  show own_Go p e below _ (s₁.setTop (mkF m 47 #[.val (.int va), .val (.int vb), .val (.int vc), .val (.int vd), .val (.int sp), .val (.int (Int32.ofNat f0)), .val (.int (Int32.ofNat f1)), .val (.int (Int32.ofNat f2)), .unset, .unset, .unset, .unset, .unset, .unset, .unset] [(.int (Int32.ofNat f1)), (.int ((4 : Int32) - (Int32.ofNat f0)))]))
  refine own_go (XS.isub X0.here hx rfl (hb hby at_47) rfl (Steps.refl _)) ?_
  show own_Go p e below _ (s₁.setTop (mkF m 48 #[.val (.int va), .val (.int vb), .val (.int vc), .val (.int vd), .val (.int sp), .val (.int (Int32.ofNat f0)), .val (.int (Int32.ofNat f1)), .val (.int (Int32.ofNat f2)), .unset, .unset, .unset, .unset, .unset, .unset, .unset] [(.int (((4 : Int32) - (Int32.ofNat f0)) - (Int32.ofNat f1)))]))
  refine own_go (XS.iload X0.here hx rfl (hb hby at_48) rfl (Steps.refl _)) ?_
  show own_Go p e below _ (s₁.setTop (mkF m 50 #[.val (.int va), .val (.int vb), .val (.int vc), .val (.int vd), .val (.int sp), .val (.int (Int32.ofNat f0)), .val (.int (Int32.ofNat f1)), .val (.int (Int32.ofNat f2)), .unset, .unset, .unset, .unset, .unset, .unset, .unset] [(.int (Int32.ofNat f2)), (.int (((4 : Int32) - (Int32.ofNat f0)) - (Int32.ofNat f1)))]))
  refine own_go (XS.isub X0.here hx rfl (hb hby at_50) rfl (Steps.refl _)) ?_
  show own_Go p e below _ (s₁.setTop (mkF m 51 #[.val (.int va), .val (.int vb), .val (.int vc), .val (.int vd), .val (.int sp), .val (.int (Int32.ofNat f0)), .val (.int (Int32.ofNat f1)), .val (.int (Int32.ofNat f2)), .unset, .unset, .unset, .unset, .unset, .unset, .unset] [(.int ((((4 : Int32) - (Int32.ofNat f0)) - (Int32.ofNat f1)) - (Int32.ofNat f2)))]))
  obtain ⟨f3, hf3⟩ : ∃ z : Nat, z = 4 - f0 - f1 - f2 := ⟨_, rfl⟩
  have hsum : f0 + f1 + f2 + f3 = 4 := by omega
  rw [show (4 : Int32) - Int32.ofNat f0 - Int32.ofNat f1 - Int32.ofNat f2 = Int32.ofNat f3 by rw [show (4 : Int32) - Int32.ofNat f0 = Int32.ofNat (4 - f0) from own_sub (i := 4) (by omega), own_sub (by omega), own_sub (by omega), hf3]]
  show own_Go p e below _ (s₁.setTop (mkF m 51 #[.val (.int va), .val (.int vb), .val (.int vc), .val (.int vd), .val (.int sp), .val (.int (Int32.ofNat f0)), .val (.int (Int32.ofNat f1)), .val (.int (Int32.ofNat f2)), .unset, .unset, .unset, .unset, .unset, .unset, .unset] [(.int (Int32.ofNat f3))]))
  refine own_go (XS.istore X0.here hx rfl (hb hby at_51) rfl (l' := #[.val (.int va), .val (.int vb), .val (.int vc), .val (.int vd), .val (.int sp), .val (.int (Int32.ofNat f0)), .val (.int (Int32.ofNat f1)), .val (.int (Int32.ofNat f2)), .val (.int (Int32.ofNat f3)), .unset, .unset, .unset, .unset, .unset, .unset]) rfl (Steps.refl _)) ?_
  show own_Go p e below _ (s₁.setTop (mkF m 53 #[.val (.int va), .val (.int vb), .val (.int vc), .val (.int vd), .val (.int sp), .val (.int (Int32.ofNat f0)), .val (.int (Int32.ofNat f1)), .val (.int (Int32.ofNat f2)), .val (.int (Int32.ofNat f3)), .unset, .unset, .unset, .unset, .unset, .unset] []))
  refine own_go (XS.iconst X0.here hx rfl (hb hby at_53) (Steps.refl _)) ?_
  show own_Go p e below _ (s₁.setTop (mkF m 54 #[.val (.int va), .val (.int vb), .val (.int vc), .val (.int vd), .val (.int sp), .val (.int (Int32.ofNat f0)), .val (.int (Int32.ofNat f1)), .val (.int (Int32.ofNat f2)), .val (.int (Int32.ofNat f3)), .unset, .unset, .unset, .unset, .unset, .unset] [(.int (4 : Int32))]))
  obtain ⟨T7, h7, c7, b7, g7, X7, e7, E7, V7', st7⟩ := own_newP X0 hx hZ (hw _ (List.mem_of_getElem? (i := 0) rfl)) e0 (g := (mkF m 54 #[.val (.int va), .val (.int vb), .val (.int vc), .val (.int vd), .val (.int sp), .val (.int (Int32.ofNat f0)), .val (.int (Int32.ofNat f1)), .val (.int (Int32.ofNat f2)), .val (.int (Int32.ofNat f3)), .unset, .unset, .unset, .unset, .unset, .unset] [(.int (4 : Int32))])) rfl (hb hby at_54) rfl (by decide) (cap := 4) (by decide) (by decide) (by decide) (by decide)
  have V7 : Arv Z h7 b7 c7 .int (4 : Int32) [(.int (0 : Int32)), (.int (0 : Int32)), (.int (0 : Int32)), (.int (0 : Int32))] (.int (0 : Int32)) := V7'
  have ge_b7 : n0 ≤ b7 := Nat.le_trans Z0 (Nat.le_of_eq g7.symm)
  have Zl7 : n0 ≤ h7.size := Nat.le_trans Z0 E7.1
  refine own_go st7 ?_
  show own_Go p e below _ (T7.setTop (mkF m 56 #[.val (.int va), .val (.int vb), .val (.int vc), .val (.int vd), .val (.int sp), .val (.int (Int32.ofNat f0)), .val (.int (Int32.ofNat f1)), .val (.int (Int32.ofNat f2)), .val (.int (Int32.ofNat f3)), .unset, .unset, .unset, .unset, .unset, .unset] [(.ref b7)]))
  refine own_go (XS.dup X7.here hx rfl (hb hby at_56) rfl rfl (Steps.refl _)) ?_
  show own_Go p e below _ (T7.setTop (mkF m 57 #[.val (.int va), .val (.int vb), .val (.int vc), .val (.int vd), .val (.int sp), .val (.int (Int32.ofNat f0)), .val (.int (Int32.ofNat f1)), .val (.int (Int32.ofNat f2)), .val (.int (Int32.ofNat f3)), .unset, .unset, .unset, .unset, .unset, .unset] [(.ref b7), (.ref b7)]))
  refine own_go (XS.iconst X7.here hx rfl (hb hby at_57) (Steps.refl _)) ?_
  show own_Go p e below _ (T7.setTop (mkF m 58 #[.val (.int va), .val (.int vb), .val (.int vc), .val (.int vd), .val (.int sp), .val (.int (Int32.ofNat f0)), .val (.int (Int32.ofNat f1)), .val (.int (Int32.ofNat f2)), .val (.int (Int32.ofNat f3)), .unset, .unset, .unset, .unset, .unset, .unset] [(.int (0 : Int32)), (.ref b7), (.ref b7)]))
  refine own_go (XS.iloadN X7.here hx rfl (hb hby at_58) rfl (Steps.refl _)) ?_
  show own_Go p e below _ (T7.setTop (mkF m 59 #[.val (.int va), .val (.int vb), .val (.int vc), .val (.int vd), .val (.int sp), .val (.int (Int32.ofNat f0)), .val (.int (Int32.ofNat f1)), .val (.int (Int32.ofNat f2)), .val (.int (Int32.ofNat f3)), .unset, .unset, .unset, .unset, .unset, .unset] [(.int va), (.int (0 : Int32)), (.ref b7), (.ref b7)]))
  obtain ⟨T8, h8, X8, e8, W8, V8', st8⟩ := own_stI X7 hx hZ e7 V7 (by decide) (by decide) (g := (mkF m 59 #[.val (.int va), .val (.int vb), .val (.int vc), .val (.int vd), .val (.int sp), .val (.int (Int32.ofNat f0)), .val (.int (Int32.ofNat f1)), .val (.int (Int32.ofNat f2)), .val (.int (Int32.ofNat f3)), .unset, .unset, .unset, .unset, .unset, .unset] [(.int va), (.int (0 : Int32)), (.ref b7), (.ref b7)])) rfl rfl (hb hby at_59) (i := 0) rfl (Nat.le_of_ble_eq_true rfl)
  have V8 : Arv Z h8 b7 c7 .int (4 : Int32) [(.int va), (.int (0 : Int32)), (.int (0 : Int32)), (.int (0 : Int32))] (.int (0 : Int32)) := V8'
  have N8 := Fr.snoc X8 (Fr.nil n0) ge_b7
  have Zl8 : n0 ≤ h8.size := Nat.le_trans Zl7 (Keep.of_wr W8).1
  refine own_go st8 ?_
  show own_Go p e below _ (T8.setTop (mkF m 60 #[.val (.int va), .val (.int vb), .val (.int vc), .val (.int vd), .val (.int sp), .val (.int (Int32.ofNat f0)), .val (.int (Int32.ofNat f1)), .val (.int (Int32.ofNat f2)), .val (.int (Int32.ofNat f3)), .unset, .unset, .unset, .unset, .unset, .unset] [(.ref b7)]))
  refine own_go (XS.dup X8.here hx rfl (hb hby at_60) rfl rfl (Steps.refl _)) ?_
  show own_Go p e below _ (T8.setTop (mkF m 61 #[.val (.int va), .val (.int vb), .val (.int vc), .val (.int vd), .val (.int sp), .val (.int (Int32.ofNat f0)), .val (.int (Int32.ofNat f1)), .val (.int (Int32.ofNat f2)), .val (.int (Int32.ofNat f3)), .unset, .unset, .unset, .unset, .unset, .unset] [(.ref b7), (.ref b7)]))
  refine own_go (XS.iconst X8.here hx rfl (hb hby at_61) (Steps.refl _)) ?_
  show own_Go p e below _ (T8.setTop (mkF m 62 #[.val (.int va), .val (.int vb), .val (.int vc), .val (.int vd), .val (.int sp), .val (.int (Int32.ofNat f0)), .val (.int (Int32.ofNat f1)), .val (.int (Int32.ofNat f2)), .val (.int (Int32.ofNat f3)), .unset, .unset, .unset, .unset, .unset, .unset] [(.int (1 : Int32)), (.ref b7), (.ref b7)]))
  refine own_go (XS.iloadN X8.here hx rfl (hb hby at_62) rfl (Steps.refl _)) ?_
  show own_Go p e below _ (T8.setTop (mkF m 63 #[.val (.int va), .val (.int vb), .val (.int vc), .val (.int vd), .val (.int sp), .val (.int (Int32.ofNat f0)), .val (.int (Int32.ofNat f1)), .val (.int (Int32.ofNat f2)), .val (.int (Int32.ofNat f3)), .unset, .unset, .unset, .unset, .unset, .unset] [(.int vb), (.int (1 : Int32)), (.ref b7), (.ref b7)]))
  obtain ⟨T9, h9, X9, e9, W9, V9', st9⟩ := own_stI X8 hx hZ e8 V8 (by decide) (by decide) (g := (mkF m 63 #[.val (.int va), .val (.int vb), .val (.int vc), .val (.int vd), .val (.int sp), .val (.int (Int32.ofNat f0)), .val (.int (Int32.ofNat f1)), .val (.int (Int32.ofNat f2)), .val (.int (Int32.ofNat f3)), .unset, .unset, .unset, .unset, .unset, .unset] [(.int vb), (.int (1 : Int32)), (.ref b7), (.ref b7)])) rfl rfl (hb hby at_63) (i := 1) rfl (Nat.le_of_ble_eq_true rfl)
  have V9 : Arv Z h9 b7 c7 .int (4 : Int32) [(.int va), (.int vb), (.int (0 : Int32)), (.int (0 : Int32))] (.int (0 : Int32)) := V9'
  have N9 := Fr.snoc X9 N8 ge_b7
  have Zl9 : n0 ≤ h9.size := Nat.le_trans Zl8 (Keep.of_wr W9).1
  refine own_go st9 ?_
  show own_Go p e below _ (T9.setTop (mkF m 64 #[.val (.int va), .val (.int vb), .val (.int vc), .val (.int vd), .val (.int sp), .val (.int (Int32.ofNat f0)), .val (.int (Int32.ofNat f1)), .val (.int (Int32.ofNat f2)), .val (.int (Int32.ofNat f3)), .unset, .unset, .unset, .unset, .unset, .unset] [(.ref b7)]))
  refine own_go (XS.dup X9.here hx rfl (hb hby at_64) rfl rfl (Steps.refl _)) ?_
  show own_Go p e below _ (T9.setTop (mkF m 65 #[.val (.int va), .val (.int vb), .val (.int vc), .val (.int vd), .val (.int sp), .val (.int (Int32.ofNat f0)), .val (.int (Int32.ofNat f1)), .val (.int (Int32.ofNat f2)), .val (.int (Int32.ofNat f3)), .unset, .unset, .unset, .unset, .unset, .unset] [(.ref b7), (.ref b7)]))
  refine own_go (XS.iconst X9.here hx rfl (hb hby at_65) (Steps.refl _)) ?_
  show own_Go p e below _ (T9.setTop (mkF m 66 #[.val (.int va), .val (.int vb), .val (.int vc), .val (.int vd), .val (.int sp), .val (.int (Int32.ofNat f0)), .val (.int (Int32.ofNat f1)), .val (.int (Int32.ofNat f2)), .val (.int (Int32.ofNat f3)), .unset, .unset, .unset, .unset, .unset, .unset] [(.int (2 : Int32)), (.ref b7), (.ref b7)]))
  refine own_go (XS.iloadN X9.here hx rfl (hb hby at_66) rfl (Steps.refl _)) ?_
  show own_Go p e below _ (T9.setTop (mkF m 67 #[.val (.int va), .val (.int vb), .val (.int vc), .val (.int vd), .val (.int sp), .val (.int (Int32.ofNat f0)), .val (.int (Int32.ofNat f1)), .val (.int (Int32.ofNat f2)), .val (.int (Int32.ofNat f3)), .unset, .unset, .unset, .unset, .unset, .unset] [(.int vc), (.int (2 : Int32)), (.ref b7), (.ref b7)]))
  obtain ⟨T10, h10, X10, e10, W10, V10', st10⟩ := own_stI X9 hx hZ e9 V9 (by decide) (by decide) (g := (mkF m 67 #[.val (.int va), .val (.int vb), .val (.int vc), .val (.int vd), .val (.int sp), .val (.int (Int32.ofNat f0)), .val (.int (Int32.ofNat f1)), .val (.int (Int32.ofNat f2)), .val (.int (Int32.ofNat f3)), .unset, .unset, .unset, .unset, .unset, .unset] [(.int vc), (.int (2 : Int32)), (.ref b7), (.ref b7)])) rfl rfl (hb hby at_67) (i := 2) rfl (Nat.le_of_ble_eq_true rfl)
  have V10 : Arv Z h10 b7 c7 .int (4 : Int32) [(.int va), (.int vb), (.int vc), (.int (0 : Int32))] (.int (0 : Int32)) := V10'
  have N10 := Fr.snoc X10 N9 ge_b7
  have Zl10 : n0 ≤ h10.size := Nat.le_trans Zl9 (Keep.of_wr W10).1
  refine own_go st10 ?_
  show own_Go p e below _ (T10.setTop (mkF m 68 #[.val (.int va), .val (.int vb), .val (.int vc), .val (.int vd), .val (.int sp), .val (.int (Int32.ofNat f0)), .val (.int (Int32.ofNat f1)), .val (.int (Int32.ofNat f2)), .val (.int (Int32.ofNat f3)), .unset, .unset, .unset, .unset, .unset, .unset] [(.ref b7)]))
  refine own_go (XS.dup X10.here hx rfl (hb hby at_68) rfl rfl (Steps.refl _)) ?_
  show own_Go p e below _ (T10.setTop (mkF m 69 #[.val (.int va), .val (.int vb), .val (.int vc), .val (.int vd), .val (.int sp), .val (.int (Int32.ofNat f0)), .val (.int (Int32.ofNat f1)), .val (.int (Int32.ofNat f2)), .val (.int (Int32.ofNat f3)), .unset, .unset, .unset, .unset, .unset, .unset] [(.ref b7), (.ref b7)]))
  refine own_go (XS.iconst X10.here hx rfl (hb hby at_69) (Steps.refl _)) ?_
  show own_Go p e below _ (T10.setTop (mkF m 70 #[.val (.int va), .val (.int vb), .val (.int vc), .val (.int vd), .val (.int sp), .val (.int (Int32.ofNat f0)), .val (.int (Int32.ofNat f1)), .val (.int (Int32.ofNat f2)), .val (.int (Int32.ofNat f3)), .unset, .unset, .unset, .unset, .unset, .unset] [(.int (3 : Int32)), (.ref b7), (.ref b7)]))
  refine own_go (XS.iloadN X10.here hx rfl (hb hby at_70) rfl (Steps.refl _)) ?_
  show own_Go p e below _ (T10.setTop (mkF m 71 #[.val (.int va), .val (.int vb), .val (.int vc), .val (.int vd), .val (.int sp), .val (.int (Int32.ofNat f0)), .val (.int (Int32.ofNat f1)), .val (.int (Int32.ofNat f2)), .val (.int (Int32.ofNat f3)), .unset, .unset, .unset, .unset, .unset, .unset] [(.int vd), (.int (3 : Int32)), (.ref b7), (.ref b7)]))
  obtain ⟨T11, h11, X11, e11, W11, V11', st11⟩ := own_stI X10 hx hZ e10 V10 (by decide) (by decide) (g := (mkF m 71 #[.val (.int va), .val (.int vb), .val (.int vc), .val (.int vd), .val (.int sp), .val (.int (Int32.ofNat f0)), .val (.int (Int32.ofNat f1)), .val (.int (Int32.ofNat f2)), .val (.int (Int32.ofNat f3)), .unset, .unset, .unset, .unset, .unset, .unset] [(.int vd), (.int (3 : Int32)), (.ref b7), (.ref b7)])) rfl rfl (hb hby at_71) (i := 3) rfl (Nat.le_of_ble_eq_true rfl)
  have V11 : Arv Z h11 b7 c7 .int (4 : Int32) [(.int va), (.int vb), (.int vc), (.int vd)] (.int (0 : Int32)) := V11'
  have N11 := Fr.snoc X11 N10 ge_b7
  have Zl11 : n0 ≤ h11.size := Nat.le_trans Zl10 (Keep.of_wr W11).1
  refine own_go st11 ?_
  show own_Go p e below _ (T11.setTop (mkF m 72 #[.val (.int va), .val (.int vb), .val (.int vc), .val (.int vd), .val (.int sp), .val (.int (Int32.ofNat f0)), .val (.int (Int32.ofNat f1)), .val (.int (Int32.ofNat f2)), .val (.int (Int32.ofNat f3)), .unset, .unset, .unset, .unset, .unset, .unset] [(.ref b7)]))
  refine own_go (XS.astore X11.here hx rfl (hb hby at_72) rfl rfl (l' := #[.val (.int va), .val (.int vb), .val (.int vc), .val (.int vd), .val (.int sp), .val (.int (Int32.ofNat f0)), .val (.int (Int32.ofNat f1)), .val (.int (Int32.ofNat f2)), .val (.int (Int32.ofNat f3)), .val (.ref b7), .unset, .unset, .unset, .unset, .unset]) rfl (Steps.refl _)) ?_
  show own_Go p e below _ (T11.setTop (mkF m 74 #[.val (.int va), .val (.int vb), .val (.int vc), .val (.int vd), .val (.int sp), .val (.int (Int32.ofNat f0)), .val (.int (Int32.ofNat f1)), .val (.int (Int32.ofNat f2)), .val (.int (Int32.ofNat f3)), .val (.ref b7), .unset, .unset, .unset, .unset, .unset] []))
  refine own_go (XS.iconst X11.here hx rfl (hb hby at_74) (Steps.refl _)) ?_
  show own_Go p e below _ (T11.setTop (mkF m 75 #[.val (.int va), .val (.int vb), .val (.int vc), .val (.int vd), .val (.int sp), .val (.int (Int32.ofNat f0)), .val (.int (Int32.ofNat f1)), .val (.int (Int32.ofNat f2)), .val (.int (Int32.ofNat f3)), .val (.ref b7), .unset, .unset, .unset, .unset, .unset] [(.int (4 : Int32))]))
  obtain ⟨T12, h12, c12, b12, g12, X12, e12, E12, V12', st12⟩ := own_newP X11 hx hZ (hw _ (List.mem_of_getElem? (i := 0) rfl)) e11 (g := (mkF m 75 #[.val (.int va), .val (.int vb), .val (.int vc), .val (.int vd), .val (.int sp), .val (.int (Int32.ofNat f0)), .val (.int (Int32.ofNat f1)), .val (.int (Int32.ofNat f2)), .val (.int (Int32.ofNat f3)), .val (.ref b7), .unset, .unset, .unset, .unset, .unset] [(.int (4 : Int32))])) rfl (hb hby at_75) rfl (by decide) (cap := 4) (by decide) (by decide) (by decide) (by decide)
  have V12 : Arv Z h12 b12 c12 .int (4 : Int32) [(.int (0 : Int32)), (.int (0 : Int32)), (.int (0 : Int32)), (.int (0 : Int32))] (.int (0 : Int32)) := V12'
  have ne_b7_b12 : b7 ≠ b12 := own_born V11.lt g12
  have ge_b12 : n0 ≤ b12 := Nat.le_trans Zl11 (Nat.le_of_eq g12.symm)
  have Zl12 : n0 ≤ h12.size := Nat.le_trans Zl11 E12.1
  refine own_go st12 ?_
  show own_Go p e below _ (T12.setTop (mkF m 77 #[.val (.int va), .val (.int vb), .val (.int vc), .val (.int vd), .val (.int sp), .val (.int (Int32.ofNat f0)), .val (.int (Int32.ofNat f1)), .val (.int (Int32.ofNat f2)), .val (.int (Int32.ofNat f3)), .val (.ref b7), .unset, .unset, .unset, .unset, .unset] [(.ref b12)]))
  refine own_go (XS.dup X12.here hx rfl (hb hby at_77) rfl rfl (Steps.refl _)) ?_
  show own_Go p e below _ (T12.setTop (mkF m 78 #[.val (.int va), .val (.int vb), .val (.int vc), .val (.int vd), .val (.int sp), .val (.int (Int32.ofNat f0)), .val (.int (Int32.ofNat f1)), .val (.int (Int32.ofNat f2)), .val (.int (Int32.ofNat f3)), .val (.ref b7), .unset, .unset, .unset, .unset, .unset] [(.ref b12), (.ref b12)]))
  refine own_go (XS.iconst X12.here hx rfl (hb hby at_78) (Steps.refl _)) ?_
  show own_Go p e below _ (T12.setTop (mkF m 79 #[.val (.int va), .val (.int vb), .val (.int vc), .val (.int vd), .val (.int sp), .val (.int (Int32.ofNat f0)), .val (.int (Int32.ofNat f1)), .val (.int (Int32.ofNat f2)), .val (.int (Int32.ofNat f3)), .val (.ref b7), .unset, .unset, .unset, .unset, .unset] [(.int (0 : Int32)), (.ref b12), (.ref b12)]))
  refine own_go (XS.iload X12.here hx rfl (hb hby at_79) rfl (Steps.refl _)) ?_
  show own_Go p e below _ (T12.setTop (mkF m 81 #[.val (.int va), .val (.int vb), .val (.int vc), .val (.int vd), .val (.int sp), .val (.int (Int32.ofNat f0)), .val (.int (Int32.ofNat f1)), .val (.int (Int32.ofNat f2)), .val (.int (Int32.ofNat f3)), .val (.ref b7), .unset, .unset, .unset, .unset, .unset] [(.int (Int32.ofNat f0)), (.int (0 : Int32)), (.ref b12), (.ref b12)]))
  obtain ⟨T13, h13, X13, e13, W13, V13', st13⟩ := own_stI X12 hx hZ e12 V12 (by decide) (by decide) (g := (mkF m 81 #[.val (.int va), .val (.int vb), .val (.int vc), .val (.int vd), .val (.int sp), .val (.int (Int32.ofNat f0)), .val (.int (Int32.ofNat f1)), .val (.int (Int32.ofNat f2)), .val (.int (Int32.ofNat f3)), .val (.ref b7), .unset, .unset, .unset, .unset, .unset] [(.int (Int32.ofNat f0)), (.int (0 : Int32)), (.ref b12), (.ref b12)])) rfl rfl (hb hby at_81) (i := 0) rfl (Nat.le_of_ble_eq_true rfl)
  have V13 : Arv Z h13 b12 c12 .int (4 : Int32) [(.int (Int32.ofNat f0)), (.int (0 : Int32)), (.int (0 : Int32)), (.int (0 : Int32))] (.int (0 : Int32)) := V13'
  have N13 := Fr.snoc X13 N11 ge_b12
  have Zl13 : n0 ≤ h13.size := Nat.le_trans Zl12 (Keep.of_wr W13).1
  refine own_go st13 ?_
  show own_Go p e below _ (T13.setTop (mkF m 82 #[.val (.int va), .val (.int vb), .val (.int vc), .val (.int vd), .val (.int sp), .val (.int (Int32.ofNat f0)), .val (.int (Int32.ofNat f1)), .val (.int (Int32.ofNat f2)), .val (.int (Int32.ofNat f3)), .val (.ref b7), .unset, .unset, .unset, .unset, .unset] [(.ref b12)]))
  refine own_go (XS.dup X13.here hx rfl (hb hby at_82) rfl rfl (Steps.refl _)) ?_
  show own_Go p e below _ (T13.setTop (mkF m 83 #[.val (.int va), .val (.int vb), .val (.int vc), .val (.int vd), .val (.int sp), .val (.int (Int32.ofNat f0)), .val (.int (Int32.ofNat f1)), .val (.int (Int32.ofNat f2)), .val (.int (Int32.ofNat f3)), .val (.ref b7), .unset, .unset, .unset, .unset, .unset] [(.ref b12), (.ref b12)]))
  refine own_go (XS.iconst X13.here hx rfl (hb hby at_83) (Steps.refl _)) ?_
  show own_Go p e below _ (T13.setTop (mkF m 84 #[.val (.int va), .val (.int vb), .val (.int vc), .val (.int vd), .val (.int sp), .val (.int (Int32.ofNat f0)), .val (.int (Int32.ofNat f1)), .val (.int (Int32.ofNat f2)), .val (.int (Int32.ofNat f3)), .val (.ref b7), .unset, .unset, .unset, .unset, .unset] [(.int (1 : Int32)), (.ref b12), (.ref b12)]))
  refine own_go (XS.iload X13.here hx rfl (hb hby at_84) rfl (Steps.refl _)) ?_
  show own_Go p e below _ (T13.setTop (mkF m 86 #[.val (.int va), .val (.int vb), .val (.int vc), .val (.int vd), .val (.int sp), .val (.int (Int32.ofNat f0)), .val (.int (Int32.ofNat f1)), .val (.int (Int32.ofNat f2)), .val (.int (Int32.ofNat f3)), .val (.ref b7), .unset, .unset, .unset, .unset, .unset] [(.int (Int32.ofNat f1)), (.int (1 : Int32)), (.ref b12), (.ref b12)]))
  obtain ⟨T14, h14, X14, e14, W14, V14', st14⟩ := own_stI X13 hx hZ e13 V13 (by decide) (by decide) (g := (mkF m 86 #[.val (.int va), .val (.int vb), .val (.int vc), .val (.int vd), .val (.int sp), .val (.int (Int32.ofNat f0)), .val (.int (Int32.ofNat f1)), .val (.int (Int32.ofNat f2)), .val (.int (Int32.ofNat f3)), .val (.ref b7), .unset, .unset, .unset, .unset, .unset] [(.int (Int32.ofNat f1)), (.int (1 : Int32)), (.ref b12), (.ref b12)])) rfl rfl (hb hby at_86) (i := 1) rfl (Nat.le_of_ble_eq_true rfl)
  have V14 : Arv Z h14 b12 c12 .int (4 : Int32) [(.int (Int32.ofNat f0)), (.int (Int32.ofNat f1)), (.int (0 : Int32)), (.int (0 : Int32))] (.int (0 : Int32)) := V14'
  have N14 := Fr.snoc X14 N13 ge_b12
  have Zl14 : n0 ≤ h14.size := Nat.le_trans Zl13 (Keep.of_wr W14).1
  refine own_go st14 ?_
  show own_Go p e below _ (T14.setTop (mkF m 87 #[.val (.int va), .val (.int vb), .val (.int vc), .val (.int vd), .val (.int sp), .val (.int (Int32.ofNat f0)), .val (.int (Int32.ofNat f1)), .val (.int (Int32.ofNat f2)), .val (.int (Int32.ofNat f3)), .val (.ref b7), .unset, .unset, .unset, .unset, .unset] [(.ref b12)]))
  refine own_go (XS.dup X14.here hx rfl (hb hby at_87) rfl rfl (Steps.refl _)) ?_
  show own_Go p e below _ (T14.setTop (mkF m 88 #[.val (.int va), .val (.int vb), .val (.int vc), .val (.int vd), .val (.int sp), .val (.int (Int32.ofNat f0)), .val (.int (Int32.ofNat f1)), .val (.int (Int32.ofNat f2)), .val (.int (Int32.ofNat f3)), .val (.ref b7), .unset, .unset, .unset, .unset, .unset] [(.ref b12), (.ref b12)]))
  refine own_go (XS.iconst X14.here hx rfl (hb hby at_88) (Steps.refl _)) ?_
  show own_Go p e below _ (T14.setTop (mkF m 89 #[.val (.int va), .val (.int vb), .val (.int vc), .val (.int vd), .val (.int sp), .val (.int (Int32.ofNat f0)), .val (.int (Int32.ofNat f1)), .val (.int (Int32.ofNat f2)), .val (.int (Int32.ofNat f3)), .val (.ref b7), .unset, .unset, .unset, .unset, .unset] [(.int (2 : Int32)), (.ref b12), (.ref b12)]))
  refine own_go (XS.iload X14.here hx rfl (hb hby at_89) rfl (Steps.refl _)) ?_
  show own_Go p e below _ (T14.setTop (mkF m 91 #[.val (.int va), .val (.int vb), .val (.int vc), .val (.int vd), .val (.int sp), .val (.int (Int32.ofNat f0)), .val (.int (Int32.ofNat f1)), .val (.int (Int32.ofNat f2)), .val (.int (Int32.ofNat f3)), .val (.ref b7), .unset, .unset, .unset, .unset, .unset] [(.int (Int32.ofNat f2)), (.int (2 : Int32)), (.ref b12), (.ref b12)]))
  obtain ⟨T15, h15, X15, e15, W15, V15', st15⟩ := own_stI X14 hx hZ e14 V14 (by decide) (by decide) (g := (mkF m 91 #[.val (.int va), .val (.int vb), .val (.int vc), .val (.int vd), .val (.int sp), .val (.int (Int32.ofNat f0)), .val (.int (Int32.ofNat f1)), .val (.int (Int32.ofNat f2)), .val (.int (Int32.ofNat f3)), .val (.ref b7), .unset, .unset, .unset, .unset, .unset] [(.int (Int32.ofNat f2)), (.int (2 : Int32)), (.ref b12), (.ref b12)])) rfl rfl (hb hby at_91) (i := 2) rfl (Nat.le_of_ble_eq_true rfl)
  have V15 : Arv Z h15 b12 c12 .int (4 : Int32) [(.int (Int32.ofNat f0)), (.int (Int32.ofNat f1)), (.int (Int32.ofNat f2)), (.int (0 : Int32))] (.int (0 : Int32)) := V15'
  have N15 := Fr.snoc X15 N14 ge_b12
  have Zl15 : n0 ≤ h15.size := Nat.le_trans Zl14 (Keep.of_wr W15).1
  refine own_go st15 ?_
  show own_Go p e below _ (T15.setTop (mkF m 92 #[.val (.int va), .val (.int vb), .val (.int vc), .val (.int vd), .val (.int sp), .val (.int (Int32.ofNat f0)), .val (.int (Int32.ofNat f1)), .val (.int (Int32.ofNat f2)), .val (.int (Int32.ofNat f3)), .val (.ref b7), .unset, .unset, .unset, .unset, .unset] [(.ref b12)]))
  refine own_go (XS.dup X15.here hx rfl (hb hby at_92) rfl rfl (Steps.refl _)) ?_
  show own_Go p e below _ (T15.setTop (mkF m 93 #[.val (.int va), .val (.int vb), .val (.int vc), .val (.int vd), .val (.int sp), .val (.int (Int32.ofNat f0)), .val (.int (Int32.ofNat f1)), .val (.int (Int32.ofNat f2)), .val (.int (Int32.ofNat f3)), .val (.ref b7), .unset, .unset, .unset, .unset, .unset] [(.ref b12), (.ref b12)]))
  refine own_go (XS.iconst X15.here hx rfl (hb hby at_93) (Steps.refl _)) ?_
  show own_Go p e below _ (T15.setTop (mkF m 94 #[.val (.int va), .val (.int vb), .val (.int vc), .val (.int vd), .val (.int sp), .val (.int (Int32.ofNat f0)), .val (.int (Int32.ofNat f1)), .val (.int (Int32.ofNat f2)), .val (.int (Int32.ofNat f3)), .val (.ref b7), .unset, .unset, .unset, .unset, .unset] [(.int (3 : Int32)), (.ref b12), (.ref b12)]))
  refine own_go (XS.iload X15.here hx rfl (hb hby at_94) rfl (Steps.refl _)) ?_
  show own_Go p e below _ (T15.setTop (mkF m 96 #[.val (.int va), .val (.int vb), .val (.int vc), .val (.int vd), .val (.int sp), .val (.int (Int32.ofNat f0)), .val (.int (Int32.ofNat f1)), .val (.int (Int32.ofNat f2)), .val (.int (Int32.ofNat f3)), .val (.ref b7), .unset, .unset, .unset, .unset, .unset] [(.int (Int32.ofNat f3)), (.int (3 : Int32)), (.ref b12), (.ref b12)]))
  obtain ⟨T16, h16, X16, e16, W16, V16', st16⟩ := own_stI X15 hx hZ e15 V15 (by decide) (by decide) (g := (mkF m 96 #[.val (.int va), .val (.int vb), .val (.int vc), .val (.int vd), .val (.int sp), .val (.int (Int32.ofNat f0)), .val (.int (Int32.ofNat f1)), .val (.int (Int32.ofNat f2)), .val (.int (Int32.ofNat f3)), .val (.ref b7), .unset, .unset, .unset, .unset, .unset] [(.int (Int32.ofNat f3)), (.int (3 : Int32)), (.ref b12), (.ref b12)])) rfl rfl (hb hby at_96) (i := 3) rfl (Nat.le_of_ble_eq_true rfl)
  have V16 : Arv Z h16 b12 c12 .int (4 : Int32) [(.int (Int32.ofNat f0)), (.int (Int32.ofNat f1)), (.int (Int32.ofNat f2)), (.int (Int32.ofNat f3))] (.int (0 : Int32)) := V16'
  have N16 := Fr.snoc X16 N15 ge_b12
  have Zl16 : n0 ≤ h16.size := Nat.le_trans Zl15 (Keep.of_wr W16).1
  refine own_go st16 ?_
  show own_Go p e below _ (T16.setTop (mkF m 97 #[.val (.int va), .val (.int vb), .val (.int vc), .val (.int vd), .val (.int sp), .val (.int (Int32.ofNat f0)), .val (.int (Int32.ofNat f1)), .val (.int (Int32.ofNat f2)), .val (.int (Int32.ofNat f3)), .val (.ref b7), .unset, .unset, .unset, .unset, .unset] [(.ref b12)]))
  refine own_go (XS.astore X16.here hx rfl (hb hby at_97) rfl rfl (l' := #[.val (.int va), .val (.int vb), .val (.int vc), .val (.int vd), .val (.int sp), .val (.int (Int32.ofNat f0)), .val (.int (Int32.ofNat f1)), .val (.int (Int32.ofNat f2)), .val (.int (Int32.ofNat f3)), .val (.ref b7), .val (.ref b12), .unset, .unset, .unset, .unset]) rfl (Steps.refl _)) ?_
  show own_Go p e below _ (T16.setTop (mkF m 99 #[.val (.int va), .val (.int vb), .val (.int vc), .val (.int vd), .val (.int sp), .val (.int (Int32.ofNat f0)), .val (.int (Int32.ofNat f1)), .val (.int (Int32.ofNat f2)), .val (.int (Int32.ofNat f3)), .val (.ref b7), .val (.ref b12), .unset, .unset, .unset, .unset] []))
  refine own_go (XS.aload X16.here hx rfl (hb hby at_99) rfl rfl (Steps.refl _)) ?_
  show own_Go p e below _ (T16.setTop (mkF m 101 #[.val (.int va), .val (.int vb), .val (.int vc), .val (.int vd), .val (.int sp), .val (.int (Int32.ofNat f0)), .val (.int (Int32.ofNat f1)), .val (.int (Int32.ofNat f2)), .val (.int (Int32.ofNat f3)), .val (.ref b7), .val (.ref b12), .unset, .unset, .unset, .unset] [(.ref b7)]))
  refine own_go (XS.aload X16.here hx rfl (hb hby at_101) rfl rfl (Steps.refl _)) ?_
  show own_Go p e below _ (T16.setTop (mkF m 103 #[.val (.int va), .val (.int vb), .val (.int vc), .val (.int vd), .val (.int sp), .val (.int (Int32.ofNat f0)), .val (.int (Int32.ofNat f1)), .val (.int (Int32.ofNat f2)), .val (.int (Int32.ofNat f3)), .val (.ref b7), .val (.ref b12), .unset, .unset, .unset, .unset] [(.ref b12), (.ref b7)]))
  obtain ⟨_, _, ⟨T17, L17, k17, n17⟩, -, X17, ⟨Lc17, hQ17, l17, y17, z17⟩, st17⟩ := Jvm.LawKit.callS X16 hx (y := (⟨"com/example/lexigap/lexigap/Gaps", "ofPositions", "([I[I)[I"⟩ : MethodName)) hown (mvT hZ (hw _ (List.mem_of_getElem? (i := 1) rfl))) (mvT hZ (hw _ (List.mem_of_getElem? (i := 2) rfl))) (mvT hZ (hw _ (List.mem_of_getElem? (i := 3) rfl))) (mvT hZ (hw _ (List.mem_of_getElem? (i := 4) rfl))) (by decide) (own_pays (W := 0) (rm_of l Z a0 hw b7 b12 c7 c12 (own_P va vb vc vd) f0 f1 f2 f3 h16 n0 Zl16 hsum (((((V11.ext E12).other W13 ne_b7_b12).other W14 ne_b7_b12).other W15 ne_b7_b12).other W16 ne_b7_b12) V16) hZ (hw _ (List.mem_of_getElem? (i := 4) rfl)) (hw _ (List.mem_of_getElem? (i := 3) rfl)) (by decide) (by decide)) (g := (mkF m 103 #[.val (.int va), .val (.int vb), .val (.int vc), .val (.int vd), .val (.int sp), .val (.int (Int32.ofNat f0)), .val (.int (Int32.ofNat f1)), .val (.int (Int32.ofNat f2)), .val (.int (Int32.ofNat f3)), .val (.ref b7), .val (.ref b12), .unset, .unset, .unset, .unset] [(.ref b12), (.ref b7)])) rfl (by rw [hml]; rfl) (argsL := [(.ref b7), (.ref b12)]) (rest := []) (lenOf own_f6 rfl) rfl (by show 2 * 0 + _ ≤ _; exact Nat.le_of_eq rfl) (hb hby at_103) (fun _ _ => ⟨rfl, e16, (by decide : 2 + 1 ≤ _), (by decide : 8 + 4 ≤ _)⟩)
  dsimp only [Pt.U, Pt.locs, Pt.cells, Pt.slots] at X17 l17 y17 z17 st17 hQ17
  subst l17 y17 z17
  obtain ⟨h17, e17⟩ : ∃ z, T17.heap = z := ⟨_, rfl⟩
  rw [e17] at hQ17
  obtain ⟨b17, c17, rfl, Nq17, K17, sz_b17, V17⟩ := hQ17
  have N17 := Fr.app N16 Nq17
  have Zl17 : n0 ≤ h17.size := Nat.le_trans Zl16 K17.1
  have ne_b7_b17 : b7 ≠ b17 := Nat.ne_of_lt (Nat.lt_of_lt_of_le (Arv.lt (((((V11.ext E12).other W13 ne_b7_b12).other W14 ne_b7_b12).other W15 ne_b7_b12).other W16 ne_b7_b12)) sz_b17)
  refine own_go (st17 _ (Steps.refl _)) ?_
  show own_Go p e below _ (T17.setTop (mkF m 106 #[.val (.int va), .val (.int vb), .val (.int vc), .val (.int vd), .val (.int sp), .val (.int (Int32.ofNat f0)), .val (.int (Int32.ofNat f1)), .val (.int (Int32.ofNat f2)), .val (.int (Int32.ofNat f3)), .val (.ref b7), .val (.ref b12), .unset, .unset, .unset, .unset] [(.ref b17)]))
  refine own_go (XS.astore X17.here hx rfl (hb hby at_106) rfl rfl (l' := #[.val (.int va), .val (.int vb), .val (.int vc), .val (.int vd), .val (.int sp), .val (.int (Int32.ofNat f0)), .val (.int (Int32.ofNat f1)), .val (.int (Int32.ofNat f2)), .val (.int (Int32.ofNat f3)), .val (.ref b7), .val (.ref b12), .val (.ref b17), .unset, .unset, .unset]) rfl (Steps.refl _)) ?_
  show own_Go p e below _ (T17.setTop (mkF m 108 #[.val (.int va), .val (.int vb), .val (.int vc), .val (.int vd), .val (.int sp), .val (.int (Int32.ofNat f0)), .val (.int (Int32.ofNat f1)), .val (.int (Int32.ofNat f2)), .val (.int (Int32.ofNat f3)), .val (.ref b7), .val (.ref b12), .val (.ref b17), .unset, .unset, .unset] []))
  refine own_go (XS.aload X17.here hx rfl (hb hby at_108) rfl rfl (Steps.refl _)) ?_
  show own_Go p e below _ (T17.setTop (mkF m 110 #[.val (.int va), .val (.int vb), .val (.int vc), .val (.int vd), .val (.int sp), .val (.int (Int32.ofNat f0)), .val (.int (Int32.ofNat f1)), .val (.int (Int32.ofNat f2)), .val (.int (Int32.ofNat f3)), .val (.ref b7), .val (.ref b12), .val (.ref b17), .unset, .unset, .unset] [(.ref b17)]))
  refine own_go (XS.aload X17.here hx rfl (hb hby at_110) rfl rfl (Steps.refl _)) ?_
  show own_Go p e below _ (T17.setTop (mkF m 112 #[.val (.int va), .val (.int vb), .val (.int vc), .val (.int vd), .val (.int sp), .val (.int (Int32.ofNat f0)), .val (.int (Int32.ofNat f1)), .val (.int (Int32.ofNat f2)), .val (.int (Int32.ofNat f3)), .val (.ref b7), .val (.ref b12), .val (.ref b17), .unset, .unset, .unset] [(.ref b7), (.ref b17)]))
  refine own_go (Jvm.RoadKit.acmp (g := (mkF m 112 #[.val (.int va), .val (.int vb), .val (.int vc), .val (.int vd), .val (.int sp), .val (.int (Int32.ofNat f0)), .val (.int (Int32.ofNat f1)), .val (.int (Int32.ofNat f2)), .val (.int (Int32.ofNat f3)), .val (.ref b7), .val (.ref b12), .val (.ref b17), .unset, .unset, .unset] [(.ref b7), (.ref b17)])) X17 hx rfl rfl rfl (pc0 := 112) (pc' := 115) (same := false) rfl (hb hby at_112) rfl (decide_eq_false fun q => ne_b7_b17 (Value.ref.inj q).symm) (by decide) (by decide) (Steps.refl _)) ?_
  show own_Go p e below _ (T17.setTop (mkF m 115 #[.val (.int va), .val (.int vb), .val (.int vc), .val (.int vd), .val (.int sp), .val (.int (Int32.ofNat f0)), .val (.int (Int32.ofNat f1)), .val (.int (Int32.ofNat f2)), .val (.int (Int32.ofNat f3)), .val (.ref b7), .val (.ref b12), .val (.ref b17), .unset, .unset, .unset] []))
  have hall := own_all (own_P va vb vc vd) f0 f1 f2 f3 hsum
  refine own_go (XS.aload X17.here hx rfl (hb hby at_115) rfl rfl (Steps.refl _)) ?_
  show own_Go p e below _ (T17.setTop (mkF m 117 #[.val (.int va), .val (.int vb), .val (.int vc), .val (.int vd), .val (.int sp), .val (.int (Int32.ofNat f0)), .val (.int (Int32.ofNat f1)), .val (.int (Int32.ofNat f2)), .val (.int (Int32.ofNat f3)), .val (.ref b7), .val (.ref b12), .val (.ref b17), .unset, .unset, .unset] [(.ref b17)]))
  refine own_go (own_len X17 hx hZ e17 V17 (g := (mkF m 117 #[.val (.int va), .val (.int vb), .val (.int vc), .val (.int vd), .val (.int sp), .val (.int (Int32.ofNat f0)), .val (.int (Int32.ofNat f1)), .val (.int (Int32.ofNat f2)), .val (.int (Int32.ofNat f3)), .val (.ref b7), .val (.ref b12), .val (.ref b17), .unset, .unset, .unset] [(.ref b17)])) rfl rfl (hb hby at_117)) ?_
  show own_Go p e below _ (T17.setTop (mkF m 118 #[.val (.int va), .val (.int vb), .val (.int vc), .val (.int vd), .val (.int sp), .val (.int (Int32.ofNat f0)), .val (.int (Int32.ofNat f1)), .val (.int (Int32.ofNat f2)), .val (.int (Int32.ofNat f3)), .val (.ref b7), .val (.ref b12), .val (.ref b17), .unset, .unset, .unset] [(.int (4 : Int32))]))
  refine own_go (XS.iconst X17.here hx rfl (hb hby at_118) (Steps.refl _)) ?_
  show own_Go p e below _ (T17.setTop (mkF m 119 #[.val (.int va), .val (.int vb), .val (.int vc), .val (.int vd), .val (.int sp), .val (.int (Int32.ofNat f0)), .val (.int (Int32.ofNat f1)), .val (.int (Int32.ofNat f2)), .val (.int (Int32.ofNat f3)), .val (.ref b7), .val (.ref b12), .val (.ref b17), .unset, .unset, .unset] [(.int (4 : Int32)), (.int (4 : Int32))]))
  refine own_go (XS.icmpYes X17.here hx rfl (pc0 := 119) (pc' := 124) rfl (hb hby at_119) rfl (teq (rfl : (4 : Int32) = (4 : Int32))).1 (by decide) (by decide) (Steps.refl _)) ?_
  show own_Go p e below _ (T17.setTop (mkF m 124 #[.val (.int va), .val (.int vb), .val (.int vc), .val (.int vd), .val (.int sp), .val (.int (Int32.ofNat f0)), .val (.int (Int32.ofNat f1)), .val (.int (Int32.ofNat f2)), .val (.int (Int32.ofNat f3)), .val (.ref b7), .val (.ref b12), .val (.ref b17), .unset, .unset, .unset] []))
  refine own_go (XS.aload X17.here hx rfl (hb hby at_124) rfl rfl (Steps.refl _)) ?_
  show own_Go p e below _ (T17.setTop (mkF m 126 #[.val (.int va), .val (.int vb), .val (.int vc), .val (.int vd), .val (.int sp), .val (.int (Int32.ofNat f0)), .val (.int (Int32.ofNat f1)), .val (.int (Int32.ofNat f2)), .val (.int (Int32.ofNat f3)), .val (.ref b7), .val (.ref b12), .val (.ref b17), .unset, .unset, .unset] [(.ref b7)]))
  refine own_go (XS.iconst X17.here hx rfl (hb hby at_126) (Steps.refl _)) ?_
  show own_Go p e below _ (T17.setTop (mkF m 127 #[.val (.int va), .val (.int vb), .val (.int vc), .val (.int vd), .val (.int sp), .val (.int (Int32.ofNat f0)), .val (.int (Int32.ofNat f1)), .val (.int (Int32.ofNat f2)), .val (.int (Int32.ofNat f3)), .val (.ref b7), .val (.ref b12), .val (.ref b17), .unset, .unset, .unset] [(.int (0 : Int32)), (.ref b7)]))
  refine own_go (own_ldI X17 hx hZ e17 ((((((V11.ext E12).other W13 ne_b7_b12).other W14 ne_b7_b12).other W15 ne_b7_b12).other W16 ne_b7_b12).keep K17 nin0) (by decide) (by decide) (v := va) rfl (g := (mkF m 127 #[.val (.int va), .val (.int vb), .val (.int vc), .val (.int vd), .val (.int sp), .val (.int (Int32.ofNat f0)), .val (.int (Int32.ofNat f1)), .val (.int (Int32.ofNat f2)), .val (.int (Int32.ofNat f3)), .val (.ref b7), .val (.ref b12), .val (.ref b17), .unset, .unset, .unset] [(.int (0 : Int32)), (.ref b7)])) rfl rfl (hb hby at_127)) ?_
  show own_Go p e below _ (T17.setTop (mkF m 128 #[.val (.int va), .val (.int vb), .val (.int vc), .val (.int vd), .val (.int sp), .val (.int (Int32.ofNat f0)), .val (.int (Int32.ofNat f1)), .val (.int (Int32.ofNat f2)), .val (.int (Int32.ofNat f3)), .val (.ref b7), .val (.ref b12), .val (.ref b17), .unset, .unset, .unset] [(.int va)]))
  refine own_go (XS.iloadN X17.here hx rfl (hb hby at_128) rfl (Steps.refl _)) ?_
  show own_Go p e below _ (T17.setTop (mkF m 129 #[.val (.int va), .val (.int vb), .val (.int vc), .val (.int vd), .val (.int sp), .val (.int (Int32.ofNat f0)), .val (.int (Int32.ofNat f1)), .val (.int (Int32.ofNat f2)), .val (.int (Int32.ofNat f3)), .val (.ref b7), .val (.ref b12), .val (.ref b17), .unset, .unset, .unset] [(.int va), (.int va)]))
  refine own_go (XS.icmpNo X17.here hx rfl (hb hby at_129) rfl (teq rfl).2 (Steps.refl _)) ?_
  show own_Go p e below _ (T17.setTop (mkF m 132 #[.val (.int va), .val (.int vb), .val (.int vc), .val (.int vd), .val (.int sp), .val (.int (Int32.ofNat f0)), .val (.int (Int32.ofNat f1)), .val (.int (Int32.ofNat f2)), .val (.int (Int32.ofNat f3)), .val (.ref b7), .val (.ref b12), .val (.ref b17), .unset, .unset, .unset] []))
  refine own_go (XS.aload X17.here hx rfl (hb hby at_132) rfl rfl (Steps.refl _)) ?_
  show own_Go p e below _ (T17.setTop (mkF m 134 #[.val (.int va), .val (.int vb), .val (.int vc), .val (.int vd), .val (.int sp), .val (.int (Int32.ofNat f0)), .val (.int (Int32.ofNat f1)), .val (.int (Int32.ofNat f2)), .val (.int (Int32.ofNat f3)), .val (.ref b7), .val (.ref b12), .val (.ref b17), .unset, .unset, .unset] [(.ref b7)]))
  refine own_go (XS.iconst X17.here hx rfl (hb hby at_134) (Steps.refl _)) ?_
  show own_Go p e below _ (T17.setTop (mkF m 135 #[.val (.int va), .val (.int vb), .val (.int vc), .val (.int vd), .val (.int sp), .val (.int (Int32.ofNat f0)), .val (.int (Int32.ofNat f1)), .val (.int (Int32.ofNat f2)), .val (.int (Int32.ofNat f3)), .val (.ref b7), .val (.ref b12), .val (.ref b17), .unset, .unset, .unset] [(.int (1 : Int32)), (.ref b7)]))
  refine own_go (own_ldI X17 hx hZ e17 ((((((V11.ext E12).other W13 ne_b7_b12).other W14 ne_b7_b12).other W15 ne_b7_b12).other W16 ne_b7_b12).keep K17 nin0) (by decide) (by decide) (v := vb) rfl (g := (mkF m 135 #[.val (.int va), .val (.int vb), .val (.int vc), .val (.int vd), .val (.int sp), .val (.int (Int32.ofNat f0)), .val (.int (Int32.ofNat f1)), .val (.int (Int32.ofNat f2)), .val (.int (Int32.ofNat f3)), .val (.ref b7), .val (.ref b12), .val (.ref b17), .unset, .unset, .unset] [(.int (1 : Int32)), (.ref b7)])) rfl rfl (hb hby at_135)) ?_
  show own_Go p e below _ (T17.setTop (mkF m 136 #[.val (.int va), .val (.int vb), .val (.int vc), .val (.int vd), .val (.int sp), .val (.int (Int32.ofNat f0)), .val (.int (Int32.ofNat f1)), .val (.int (Int32.ofNat f2)), .val (.int (Int32.ofNat f3)), .val (.ref b7), .val (.ref b12), .val (.ref b17), .unset, .unset, .unset] [(.int vb)]))
  refine own_go (XS.iloadN X17.here hx rfl (hb hby at_136) rfl (Steps.refl _)) ?_
  show own_Go p e below _ (T17.setTop (mkF m 137 #[.val (.int va), .val (.int vb), .val (.int vc), .val (.int vd), .val (.int sp), .val (.int (Int32.ofNat f0)), .val (.int (Int32.ofNat f1)), .val (.int (Int32.ofNat f2)), .val (.int (Int32.ofNat f3)), .val (.ref b7), .val (.ref b12), .val (.ref b17), .unset, .unset, .unset] [(.int vb), (.int vb)]))
  refine own_go (XS.icmpNo X17.here hx rfl (hb hby at_137) rfl (teq rfl).2 (Steps.refl _)) ?_
  show own_Go p e below _ (T17.setTop (mkF m 140 #[.val (.int va), .val (.int vb), .val (.int vc), .val (.int vd), .val (.int sp), .val (.int (Int32.ofNat f0)), .val (.int (Int32.ofNat f1)), .val (.int (Int32.ofNat f2)), .val (.int (Int32.ofNat f3)), .val (.ref b7), .val (.ref b12), .val (.ref b17), .unset, .unset, .unset] []))
  refine own_go (XS.aload X17.here hx rfl (hb hby at_140) rfl rfl (Steps.refl _)) ?_
  show own_Go p e below _ (T17.setTop (mkF m 142 #[.val (.int va), .val (.int vb), .val (.int vc), .val (.int vd), .val (.int sp), .val (.int (Int32.ofNat f0)), .val (.int (Int32.ofNat f1)), .val (.int (Int32.ofNat f2)), .val (.int (Int32.ofNat f3)), .val (.ref b7), .val (.ref b12), .val (.ref b17), .unset, .unset, .unset] [(.ref b7)]))
  refine own_go (XS.iconst X17.here hx rfl (hb hby at_142) (Steps.refl _)) ?_
  show own_Go p e below _ (T17.setTop (mkF m 143 #[.val (.int va), .val (.int vb), .val (.int vc), .val (.int vd), .val (.int sp), .val (.int (Int32.ofNat f0)), .val (.int (Int32.ofNat f1)), .val (.int (Int32.ofNat f2)), .val (.int (Int32.ofNat f3)), .val (.ref b7), .val (.ref b12), .val (.ref b17), .unset, .unset, .unset] [(.int (2 : Int32)), (.ref b7)]))
  refine own_go (own_ldI X17 hx hZ e17 ((((((V11.ext E12).other W13 ne_b7_b12).other W14 ne_b7_b12).other W15 ne_b7_b12).other W16 ne_b7_b12).keep K17 nin0) (by decide) (by decide) (v := vc) rfl (g := (mkF m 143 #[.val (.int va), .val (.int vb), .val (.int vc), .val (.int vd), .val (.int sp), .val (.int (Int32.ofNat f0)), .val (.int (Int32.ofNat f1)), .val (.int (Int32.ofNat f2)), .val (.int (Int32.ofNat f3)), .val (.ref b7), .val (.ref b12), .val (.ref b17), .unset, .unset, .unset] [(.int (2 : Int32)), (.ref b7)])) rfl rfl (hb hby at_143)) ?_
  show own_Go p e below _ (T17.setTop (mkF m 144 #[.val (.int va), .val (.int vb), .val (.int vc), .val (.int vd), .val (.int sp), .val (.int (Int32.ofNat f0)), .val (.int (Int32.ofNat f1)), .val (.int (Int32.ofNat f2)), .val (.int (Int32.ofNat f3)), .val (.ref b7), .val (.ref b12), .val (.ref b17), .unset, .unset, .unset] [(.int vc)]))
  refine own_go (XS.iloadN X17.here hx rfl (hb hby at_144) rfl (Steps.refl _)) ?_
  show own_Go p e below _ (T17.setTop (mkF m 145 #[.val (.int va), .val (.int vb), .val (.int vc), .val (.int vd), .val (.int sp), .val (.int (Int32.ofNat f0)), .val (.int (Int32.ofNat f1)), .val (.int (Int32.ofNat f2)), .val (.int (Int32.ofNat f3)), .val (.ref b7), .val (.ref b12), .val (.ref b17), .unset, .unset, .unset] [(.int vc), (.int vc)]))
  refine own_go (XS.icmpNo X17.here hx rfl (hb hby at_145) rfl (teq rfl).2 (Steps.refl _)) ?_
  show own_Go p e below _ (T17.setTop (mkF m 148 #[.val (.int va), .val (.int vb), .val (.int vc), .val (.int vd), .val (.int sp), .val (.int (Int32.ofNat f0)), .val (.int (Int32.ofNat f1)), .val (.int (Int32.ofNat f2)), .val (.int (Int32.ofNat f3)), .val (.ref b7), .val (.ref b12), .val (.ref b17), .unset, .unset, .unset] []))
  refine own_go (XS.aload X17.here hx rfl (hb hby at_148) rfl rfl (Steps.refl _)) ?_
  show own_Go p e below _ (T17.setTop (mkF m 150 #[.val (.int va), .val (.int vb), .val (.int vc), .val (.int vd), .val (.int sp), .val (.int (Int32.ofNat f0)), .val (.int (Int32.ofNat f1)), .val (.int (Int32.ofNat f2)), .val (.int (Int32.ofNat f3)), .val (.ref b7), .val (.ref b12), .val (.ref b17), .unset, .unset, .unset] [(.ref b7)]))
  refine own_go (XS.iconst X17.here hx rfl (hb hby at_150) (Steps.refl _)) ?_
  show own_Go p e below _ (T17.setTop (mkF m 151 #[.val (.int va), .val (.int vb), .val (.int vc), .val (.int vd), .val (.int sp), .val (.int (Int32.ofNat f0)), .val (.int (Int32.ofNat f1)), .val (.int (Int32.ofNat f2)), .val (.int (Int32.ofNat f3)), .val (.ref b7), .val (.ref b12), .val (.ref b17), .unset, .unset, .unset] [(.int (3 : Int32)), (.ref b7)]))
  refine own_go (own_ldI X17 hx hZ e17 ((((((V11.ext E12).other W13 ne_b7_b12).other W14 ne_b7_b12).other W15 ne_b7_b12).other W16 ne_b7_b12).keep K17 nin0) (by decide) (by decide) (v := vd) rfl (g := (mkF m 151 #[.val (.int va), .val (.int vb), .val (.int vc), .val (.int vd), .val (.int sp), .val (.int (Int32.ofNat f0)), .val (.int (Int32.ofNat f1)), .val (.int (Int32.ofNat f2)), .val (.int (Int32.ofNat f3)), .val (.ref b7), .val (.ref b12), .val (.ref b17), .unset, .unset, .unset] [(.int (3 : Int32)), (.ref b7)])) rfl rfl (hb hby at_151)) ?_
  show own_Go p e below _ (T17.setTop (mkF m 152 #[.val (.int va), .val (.int vb), .val (.int vc), .val (.int vd), .val (.int sp), .val (.int (Int32.ofNat f0)), .val (.int (Int32.ofNat f1)), .val (.int (Int32.ofNat f2)), .val (.int (Int32.ofNat f3)), .val (.ref b7), .val (.ref b12), .val (.ref b17), .unset, .unset, .unset] [(.int vd)]))
  refine own_go (XS.iloadN X17.here hx rfl (hb hby at_152) rfl (Steps.refl _)) ?_
  show own_Go p e below _ (T17.setTop (mkF m 153 #[.val (.int va), .val (.int vb), .val (.int vc), .val (.int vd), .val (.int sp), .val (.int (Int32.ofNat f0)), .val (.int (Int32.ofNat f1)), .val (.int (Int32.ofNat f2)), .val (.int (Int32.ofNat f3)), .val (.ref b7), .val (.ref b12), .val (.ref b17), .unset, .unset, .unset] [(.int vd), (.int vd)]))
  refine own_go (XS.icmpYes X17.here hx rfl (pc0 := 153) (pc' := 158) rfl (hb hby at_153) rfl (teq rfl).1 (by decide) (by decide) (Steps.refl _)) ?_
  show own_Go p e below _ (T17.setTop (mkF m 158 #[.val (.int va), .val (.int vb), .val (.int vc), .val (.int vd), .val (.int sp), .val (.int (Int32.ofNat f0)), .val (.int (Int32.ofNat f1)), .val (.int (Int32.ofNat f2)), .val (.int (Int32.ofNat f3)), .val (.ref b7), .val (.ref b12), .val (.ref b17), .unset, .unset, .unset] []))
  refine own_go (XS.iload X17.here hx rfl (hb hby at_158) rfl (Steps.refl _)) ?_
  show own_Go p e below _ (T17.setTop (mkF m 160 #[.val (.int va), .val (.int vb), .val (.int vc), .val (.int vd), .val (.int sp), .val (.int (Int32.ofNat f0)), .val (.int (Int32.ofNat f1)), .val (.int (Int32.ofNat f2)), .val (.int (Int32.ofNat f3)), .val (.ref b7), .val (.ref b12), .val (.ref b17), .unset, .unset, .unset] [(.int (Int32.ofNat f0))]))
  refine own_go (XS.istore X17.here hx rfl (hb hby at_160) rfl (l' := #[.val (.int va), .val (.int vb), .val (.int vc), .val (.int vd), .val (.int sp), .val (.int (Int32.ofNat f0)), .val (.int (Int32.ofNat f1)), .val (.int (Int32.ofNat f2)), .val (.int (Int32.ofNat f3)), .val (.ref b7), .val (.ref b12), .val (.ref b17), .val (.int (Int32.ofNat f0)), .unset, .unset]) rfl (Steps.refl _)) ?_
  show own_Go p e below _ (T17.setTop (mkF m 162 #[.val (.int va), .val (.int vb), .val (.int vc), .val (.int vd), .val (.int sp), .val (.int (Int32.ofNat f0)), .val (.int (Int32.ofNat f1)), .val (.int (Int32.ofNat f2)), .val (.int (Int32.ofNat f3)), .val (.ref b7), .val (.ref b12), .val (.ref b17), .val (.int (Int32.ofNat f0)), .unset, .unset] []))
  refine own_go (XS.iload X17.here hx rfl (hb hby at_162) rfl (Steps.refl _)) ?_
  show own_Go p e below _ (T17.setTop (mkF m 164 #[.val (.int va), .val (.int vb), .val (.int vc), .val (.int vd), .val (.int sp), .val (.int (Int32.ofNat f0)), .val (.int (Int32.ofNat f1)), .val (.int (Int32.ofNat f2)), .val (.int (Int32.ofNat f3)), .val (.ref b7), .val (.ref b12), .val (.ref b17), .val (.int (Int32.ofNat f0)), .unset, .unset] [(.int (Int32.ofNat f0))]))
  refine own_go (XS.iload X17.here hx rfl (hb hby at_164) rfl (Steps.refl _)) ?_
  show own_Go p e below _ (T17.setTop (mkF m 166 #[.val (.int va), .val (.int vb), .val (.int vc), .val (.int vd), .val (.int sp), .val (.int (Int32.ofNat f0)), .val (.int (Int32.ofNat f1)), .val (.int (Int32.ofNat f2)), .val (.int (Int32.ofNat f3)), .val (.ref b7), .val (.ref b12), .val (.ref b17), .val (.int (Int32.ofNat f0)), .unset, .unset] [(.int (Int32.ofNat f1)), (.int (Int32.ofNat f0))]))
  refine own_go (XS.iadd X17.here hx rfl (hb hby at_166) rfl (Steps.refl _)) ?_
  show own_Go p e below _ (T17.setTop (mkF m 167 #[.val (.int va), .val (.int vb), .val (.int vc), .val (.int vd), .val (.int sp), .val (.int (Int32.ofNat f0)), .val (.int (Int32.ofNat f1)), .val (.int (Int32.ofNat f2)), .val (.int (Int32.ofNat f3)), .val (.ref b7), .val (.ref b12), .val (.ref b17), .val (.int (Int32.ofNat f0)), .unset, .unset] [(.int ((Int32.ofNat f0) + (Int32.ofNat f1)))]))
  rw [own_add f0 f1]
  show own_Go p e below _ (T17.setTop (mkF m 167 #[.val (.int va), .val (.int vb), .val (.int vc), .val (.int vd), .val (.int sp), .val (.int (Int32.ofNat f0)), .val (.int (Int32.ofNat f1)), .val (.int (Int32.ofNat f2)), .val (.int (Int32.ofNat f3)), .val (.ref b7), .val (.ref b12), .val (.ref b17), .val (.int (Int32.ofNat f0)), .unset, .unset] [(.int (Int32.ofNat (f0 + f1)))]))
  refine own_go (XS.istore X17.here hx rfl (hb hby at_167) rfl (l' := #[.val (.int va), .val (.int vb), .val (.int vc), .val (.int vd), .val (.int sp), .val (.int (Int32.ofNat f0)), .val (.int (Int32.ofNat f1)), .val (.int (Int32.ofNat f2)), .val (.int (Int32.ofNat f3)), .val (.ref b7), .val (.ref b12), .val (.ref b17), .val (.int (Int32.ofNat f0)), .val (.int (Int32.ofNat (f0 + f1))), .unset]) rfl (Steps.refl _)) ?_
  show own_Go p e below _ (T17.setTop (mkF m 169 #[.val (.int va), .val (.int vb), .val (.int vc), .val (.int vd), .val (.int sp), .val (.int (Int32.ofNat f0)), .val (.int (Int32.ofNat f1)), .val (.int (Int32.ofNat f2)), .val (.int (Int32.ofNat f3)), .val (.ref b7), .val (.ref b12), .val (.ref b17), .val (.int (Int32.ofNat f0)), .val (.int (Int32.ofNat (f0 + f1))), .unset] []))
  refine own_go (XS.iload X17.here hx rfl (hb hby at_169) rfl (Steps.refl _)) ?_
  show own_Go p e below _ (T17.setTop (mkF m 171 #[.val (.int va), .val (.int vb), .val (.int vc), .val (.int vd), .val (.int sp), .val (.int (Int32.ofNat f0)), .val (.int (Int32.ofNat f1)), .val (.int (Int32.ofNat f2)), .val (.int (Int32.ofNat f3)), .val (.ref b7), .val (.ref b12), .val (.ref b17), .val (.int (Int32.ofNat f0)), .val (.int (Int32.ofNat (f0 + f1))), .unset] [(.int (Int32.ofNat (f0 + f1)))]))
  refine own_go (XS.iload X17.here hx rfl (hb hby at_171) rfl (Steps.refl _)) ?_
  show own_Go p e below _ (T17.setTop (mkF m 173 #[.val (.int va), .val (.int vb), .val (.int vc), .val (.int vd), .val (.int sp), .val (.int (Int32.ofNat f0)), .val (.int (Int32.ofNat f1)), .val (.int (Int32.ofNat f2)), .val (.int (Int32.ofNat f3)), .val (.ref b7), .val (.ref b12), .val (.ref b17), .val (.int (Int32.ofNat f0)), .val (.int (Int32.ofNat (f0 + f1))), .unset] [(.int (Int32.ofNat f2)), (.int (Int32.ofNat (f0 + f1)))]))
  refine own_go (XS.iadd X17.here hx rfl (hb hby at_173) rfl (Steps.refl _)) ?_
  show own_Go p e below _ (T17.setTop (mkF m 174 #[.val (.int va), .val (.int vb), .val (.int vc), .val (.int vd), .val (.int sp), .val (.int (Int32.ofNat f0)), .val (.int (Int32.ofNat f1)), .val (.int (Int32.ofNat f2)), .val (.int (Int32.ofNat f3)), .val (.ref b7), .val (.ref b12), .val (.ref b17), .val (.int (Int32.ofNat f0)), .val (.int (Int32.ofNat (f0 + f1))), .unset] [(.int ((Int32.ofNat (f0 + f1)) + (Int32.ofNat f2)))]))
  rw [own_add (f0 + f1) f2]
  show own_Go p e below _ (T17.setTop (mkF m 174 #[.val (.int va), .val (.int vb), .val (.int vc), .val (.int vd), .val (.int sp), .val (.int (Int32.ofNat f0)), .val (.int (Int32.ofNat f1)), .val (.int (Int32.ofNat f2)), .val (.int (Int32.ofNat f3)), .val (.ref b7), .val (.ref b12), .val (.ref b17), .val (.int (Int32.ofNat f0)), .val (.int (Int32.ofNat (f0 + f1))), .unset] [(.int (Int32.ofNat (f0 + f1 + f2)))]))
  refine own_go (XS.istore X17.here hx rfl (hb hby at_174) rfl (l' := #[.val (.int va), .val (.int vb), .val (.int vc), .val (.int vd), .val (.int sp), .val (.int (Int32.ofNat f0)), .val (.int (Int32.ofNat f1)), .val (.int (Int32.ofNat f2)), .val (.int (Int32.ofNat f3)), .val (.ref b7), .val (.ref b12), .val (.ref b17), .val (.int (Int32.ofNat f0)), .val (.int (Int32.ofNat (f0 + f1))), .val (.int (Int32.ofNat (f0 + f1 + f2)))]) rfl (Steps.refl _)) ?_
  show own_Go p e below _ (T17.setTop (mkF m 176 #[.val (.int va), .val (.int vb), .val (.int vc), .val (.int vd), .val (.int sp), .val (.int (Int32.ofNat f0)), .val (.int (Int32.ofNat f1)), .val (.int (Int32.ofNat f2)), .val (.int (Int32.ofNat f3)), .val (.ref b7), .val (.ref b12), .val (.ref b17), .val (.int (Int32.ofNat f0)), .val (.int (Int32.ofNat (f0 + f1))), .val (.int (Int32.ofNat (f0 + f1 + f2)))] []))
  refine own_go (XS.aload X17.here hx rfl (hb hby at_176) rfl rfl (Steps.refl _)) ?_
  show own_Go p e below _ (T17.setTop (mkF m 178 #[.val (.int va), .val (.int vb), .val (.int vc), .val (.int vd), .val (.int sp), .val (.int (Int32.ofNat f0)), .val (.int (Int32.ofNat f1)), .val (.int (Int32.ofNat f2)), .val (.int (Int32.ofNat f3)), .val (.ref b7), .val (.ref b12), .val (.ref b17), .val (.int (Int32.ofNat f0)), .val (.int (Int32.ofNat (f0 + f1))), .val (.int (Int32.ofNat (f0 + f1 + f2)))] [(.ref b17)]))
  refine own_go (XS.iconst X17.here hx rfl (hb hby at_178) (Steps.refl _)) ?_
  show own_Go p e below _ (T17.setTop (mkF m 179 #[.val (.int va), .val (.int vb), .val (.int vc), .val (.int vd), .val (.int sp), .val (.int (Int32.ofNat f0)), .val (.int (Int32.ofNat f1)), .val (.int (Int32.ofNat f2)), .val (.int (Int32.ofNat f3)), .val (.ref b7), .val (.ref b12), .val (.ref b17), .val (.int (Int32.ofNat f0)), .val (.int (Int32.ofNat (f0 + f1))), .val (.int (Int32.ofNat (f0 + f1 + f2)))] [(.int (0 : Int32)), (.ref b17)]))
  refine own_go (own_ldI X17 hx hZ e17 V17 (by decide) (by decide) (v := (own_gaps (own_P va vb vc vd) f0 f1 f2 f3 0)) rfl (g := (mkF m 179 #[.val (.int va), .val (.int vb), .val (.int vc), .val (.int vd), .val (.int sp), .val (.int (Int32.ofNat f0)), .val (.int (Int32.ofNat f1)), .val (.int (Int32.ofNat f2)), .val (.int (Int32.ofNat f3)), .val (.ref b7), .val (.ref b12), .val (.ref b17), .val (.int (Int32.ofNat f0)), .val (.int (Int32.ofNat (f0 + f1))), .val (.int (Int32.ofNat (f0 + f1 + f2)))] [(.int (0 : Int32)), (.ref b17)])) rfl rfl (hb hby at_179)) ?_
  show own_Go p e below _ (T17.setTop (mkF m 180 #[.val (.int va), .val (.int vb), .val (.int vc), .val (.int vd), .val (.int sp), .val (.int (Int32.ofNat f0)), .val (.int (Int32.ofNat f1)), .val (.int (Int32.ofNat f2)), .val (.int (Int32.ofNat f3)), .val (.ref b7), .val (.ref b12), .val (.ref b17), .val (.int (Int32.ofNat f0)), .val (.int (Int32.ofNat (f0 + f1))), .val (.int (Int32.ofNat (f0 + f1 + f2)))] [(.int (own_gaps (own_P va vb vc vd) f0 f1 f2 f3 0))]))
  refine own_go (XS.iloadN X17.here hx rfl (hb hby at_180) rfl (Steps.refl _)) ?_
  show own_Go p e below _ (T17.setTop (mkF m 181 #[.val (.int va), .val (.int vb), .val (.int vc), .val (.int vd), .val (.int sp), .val (.int (Int32.ofNat f0)), .val (.int (Int32.ofNat f1)), .val (.int (Int32.ofNat f2)), .val (.int (Int32.ofNat f3)), .val (.ref b7), .val (.ref b12), .val (.ref b17), .val (.int (Int32.ofNat f0)), .val (.int (Int32.ofNat (f0 + f1))), .val (.int (Int32.ofNat (f0 + f1 + f2)))] [(.int va), (.int (own_gaps (own_P va vb vc vd) f0 f1 f2 f3 0))]))
  refine own_go (XS.icmpNo X17.here hx rfl (hb hby at_181) rfl (teq hall.1).2 (Steps.refl _)) ?_
  show own_Go p e below _ (T17.setTop (mkF m 184 #[.val (.int va), .val (.int vb), .val (.int vc), .val (.int vd), .val (.int sp), .val (.int (Int32.ofNat f0)), .val (.int (Int32.ofNat f1)), .val (.int (Int32.ofNat f2)), .val (.int (Int32.ofNat f3)), .val (.ref b7), .val (.ref b12), .val (.ref b17), .val (.int (Int32.ofNat f0)), .val (.int (Int32.ofNat (f0 + f1))), .val (.int (Int32.ofNat (f0 + f1 + f2)))] []))
  refine own_go (XS.aload X17.here hx rfl (hb hby at_184) rfl rfl (Steps.refl _)) ?_
  show own_Go p e below _ (T17.setTop (mkF m 186 #[.val (.int va), .val (.int vb), .val (.int vc), .val (.int vd), .val (.int sp), .val (.int (Int32.ofNat f0)), .val (.int (Int32.ofNat f1)), .val (.int (Int32.ofNat f2)), .val (.int (Int32.ofNat f3)), .val (.ref b7), .val (.ref b12), .val (.ref b17), .val (.int (Int32.ofNat f0)), .val (.int (Int32.ofNat (f0 + f1))), .val (.int (Int32.ofNat (f0 + f1 + f2)))] [(.ref b17)]))
  refine own_go (XS.iconst X17.here hx rfl (hb hby at_186) (Steps.refl _)) ?_
  show own_Go p e below _ (T17.setTop (mkF m 187 #[.val (.int va), .val (.int vb), .val (.int vc), .val (.int vd), .val (.int sp), .val (.int (Int32.ofNat f0)), .val (.int (Int32.ofNat f1)), .val (.int (Int32.ofNat f2)), .val (.int (Int32.ofNat f3)), .val (.ref b7), .val (.ref b12), .val (.ref b17), .val (.int (Int32.ofNat f0)), .val (.int (Int32.ofNat (f0 + f1))), .val (.int (Int32.ofNat (f0 + f1 + f2)))] [(.int (1 : Int32)), (.ref b17)]))
  refine own_go (own_ldI X17 hx hZ e17 V17 (by decide) (by decide) (v := (own_gaps (own_P va vb vc vd) f0 f1 f2 f3 1)) rfl (g := (mkF m 187 #[.val (.int va), .val (.int vb), .val (.int vc), .val (.int vd), .val (.int sp), .val (.int (Int32.ofNat f0)), .val (.int (Int32.ofNat f1)), .val (.int (Int32.ofNat f2)), .val (.int (Int32.ofNat f3)), .val (.ref b7), .val (.ref b12), .val (.ref b17), .val (.int (Int32.ofNat f0)), .val (.int (Int32.ofNat (f0 + f1))), .val (.int (Int32.ofNat (f0 + f1 + f2)))] [(.int (1 : Int32)), (.ref b17)])) rfl rfl (hb hby at_187)) ?_
  show own_Go p e below _ (T17.setTop (mkF m 188 #[.val (.int va), .val (.int vb), .val (.int vc), .val (.int vd), .val (.int sp), .val (.int (Int32.ofNat f0)), .val (.int (Int32.ofNat f1)), .val (.int (Int32.ofNat f2)), .val (.int (Int32.ofNat f3)), .val (.ref b7), .val (.ref b12), .val (.ref b17), .val (.int (Int32.ofNat f0)), .val (.int (Int32.ofNat (f0 + f1))), .val (.int (Int32.ofNat (f0 + f1 + f2)))] [(.int (own_gaps (own_P va vb vc vd) f0 f1 f2 f3 1))]))
  refine own_go (XS.iconst X17.here hx rfl (hb hby at_188) (Steps.refl _)) ?_
  show own_Go p e below _ (T17.setTop (mkF m 189 #[.val (.int va), .val (.int vb), .val (.int vc), .val (.int vd), .val (.int sp), .val (.int (Int32.ofNat f0)), .val (.int (Int32.ofNat f1)), .val (.int (Int32.ofNat f2)), .val (.int (Int32.ofNat f3)), .val (.ref b7), .val (.ref b12), .val (.ref b17), .val (.int (Int32.ofNat f0)), .val (.int (Int32.ofNat (f0 + f1))), .val (.int (Int32.ofNat (f0 + f1 + f2)))] [(.int (1 : Int32)), (.int (own_gaps (own_P va vb vc vd) f0 f1 f2 f3 1))]))
  refine own_go (XS.iloadN X17.here hx rfl (hb hby at_189) rfl (Steps.refl _)) ?_
  show own_Go p e below _ (T17.setTop (mkF m 190 #[.val (.int va), .val (.int vb), .val (.int vc), .val (.int vd), .val (.int sp), .val (.int (Int32.ofNat f0)), .val (.int (Int32.ofNat f1)), .val (.int (Int32.ofNat f2)), .val (.int (Int32.ofNat f3)), .val (.ref b7), .val (.ref b12), .val (.ref b17), .val (.int (Int32.ofNat f0)), .val (.int (Int32.ofNat (f0 + f1))), .val (.int (Int32.ofNat (f0 + f1 + f2)))] [(.int vb), (.int (1 : Int32)), (.int (own_gaps (own_P va vb vc vd) f0 f1 f2 f3 1))]))
  refine own_go (XS.iloadN X17.here hx rfl (hb hby at_190) rfl (Steps.refl _)) ?_
  show own_Go p e below _ (T17.setTop (mkF m 191 #[.val (.int va), .val (.int vb), .val (.int vc), .val (.int vd), .val (.int sp), .val (.int (Int32.ofNat f0)), .val (.int (Int32.ofNat f1)), .val (.int (Int32.ofNat f2)), .val (.int (Int32.ofNat f3)), .val (.ref b7), .val (.ref b12), .val (.ref b17), .val (.int (Int32.ofNat f0)), .val (.int (Int32.ofNat (f0 + f1))), .val (.int (Int32.ofNat (f0 + f1 + f2)))] [(.int va), (.int vb), (.int (1 : Int32)), (.int (own_gaps (own_P va vb vc vd) f0 f1 f2 f3 1))]))
  refine own_go (XS.iload X17.here hx rfl (hb hby at_191) rfl (Steps.refl _)) ?_
  show own_Go p e below _ (T17.setTop (mkF m 193 #[.val (.int va), .val (.int vb), .val (.int vc), .val (.int vd), .val (.int sp), .val (.int (Int32.ofNat f0)), .val (.int (Int32.ofNat f1)), .val (.int (Int32.ofNat f2)), .val (.int (Int32.ofNat f3)), .val (.ref b7), .val (.ref b12), .val (.ref b17), .val (.int (Int32.ofNat f0)), .val (.int (Int32.ofNat (f0 + f1))), .val (.int (Int32.ofNat (f0 + f1 + f2)))] [(.int (Int32.ofNat f0)), (.int va), (.int vb), (.int (1 : Int32)), (.int (own_gaps (own_P va vb vc vd) f0 f1 f2 f3 1))]))
  refine own_go (XS.iload X17.here hx rfl (hb hby at_193) rfl (Steps.refl _)) ?_
  show own_Go p e below _ (T17.setTop (mkF m 195 #[.val (.int va), .val (.int vb), .val (.int vc), .val (.int vd), .val (.int sp), .val (.int (Int32.ofNat f0)), .val (.int (Int32.ofNat f1)), .val (.int (Int32.ofNat f2)), .val (.int (Int32.ofNat f3)), .val (.ref b7), .val (.ref b12), .val (.ref b17), .val (.int (Int32.ofNat f0)), .val (.int (Int32.ofNat (f0 + f1))), .val (.int (Int32.ofNat (f0 + f1 + f2)))] [(.int (Int32.ofNat (f0 + f1))), (.int (Int32.ofNat f0)), (.int va), (.int vb), (.int (1 : Int32)), (.int (own_gaps (own_P va vb vc vd) f0 f1 f2 f3 1))]))
  refine own_go (XS.iload X17.here hx rfl (hb hby at_195) rfl (Steps.refl _)) ?_
  show own_Go p e below _ (T17.setTop (mkF m 197 #[.val (.int va), .val (.int vb), .val (.int vc), .val (.int vd), .val (.int sp), .val (.int (Int32.ofNat f0)), .val (.int (Int32.ofNat f1)), .val (.int (Int32.ofNat f2)), .val (.int (Int32.ofNat f3)), .val (.ref b7), .val (.ref b12), .val (.ref b17), .val (.int (Int32.ofNat f0)), .val (.int (Int32.ofNat (f0 + f1))), .val (.int (Int32.ofNat (f0 + f1 + f2)))] [(.int (Int32.ofNat (f0 + f1 + f2))), (.int (Int32.ofNat (f0 + f1))), (.int (Int32.ofNat f0)), (.int va), (.int vb), (.int (1 : Int32)), (.int (own_gaps (own_P va vb vc vd) f0 f1 f2 f3 1))]))
  obtain ⟨_, _, ⟨T18, L18, k18, n18⟩, -, X18, ⟨Lc18, hQ18, l18, y18, z18⟩, st18⟩ := Jvm.LawKit.callS X17 hx (y := (⟨"com/example/lexigap/lexigap/GapsOfPositionsPinLaw", "expected", "(IIIIII)I"⟩ : MethodName)) hown (mvT hZ (hw _ (List.mem_of_getElem? (i := 5) rfl))) (mvT hZ (hw _ (List.mem_of_getElem? (i := 6) rfl))) (mvT hZ (hw _ (List.mem_of_getElem? (i := 7) rfl))) (mvT hZ (hw _ (List.mem_of_getElem? (i := 8) rfl))) (by decide) (own_pays (W := 1) (rm_exp l Z a0 hw (1 : Int32) vb va (Int32.ofNat f0) (Int32.ofNat (f0 + f1)) (Int32.ofNat (f0 + f1 + f2)) h17 n0 Zl17) hZ (hw _ (List.mem_of_getElem? (i := 8) rfl)) (hw _ (List.mem_of_getElem? (i := 7) rfl)) (by decide) (by decide)) (g := (mkF m 197 #[.val (.int va), .val (.int vb), .val (.int vc), .val (.int vd), .val (.int sp), .val (.int (Int32.ofNat f0)), .val (.int (Int32.ofNat f1)), .val (.int (Int32.ofNat f2)), .val (.int (Int32.ofNat f3)), .val (.ref b7), .val (.ref b12), .val (.ref b17), .val (.int (Int32.ofNat f0)), .val (.int (Int32.ofNat (f0 + f1))), .val (.int (Int32.ofNat (f0 + f1 + f2)))] [(.int (Int32.ofNat (f0 + f1 + f2))), (.int (Int32.ofNat (f0 + f1))), (.int (Int32.ofNat f0)), (.int va), (.int vb), (.int (1 : Int32)), (.int (own_gaps (own_P va vb vc vd) f0 f1 f2 f3 1))])) rfl (by rw [hml]; rfl) (argsL := [(.int (1 : Int32)), (.int vb), (.int va), (.int (Int32.ofNat f0)), (.int (Int32.ofNat (f0 + f1))), (.int (Int32.ofNat (f0 + f1 + f2)))]) (rest := [(.int (own_gaps (own_P va vb vc vd) f0 f1 f2 f3 1))]) (lenOf own_f7 rfl) rfl (by show 2 * 0 + _ ≤ _; exact Nat.le_of_eq rfl) (hb hby at_197) (fun _ _ => ⟨rfl, e17, (by decide : 3 + 0 ≤ _), (by decide : 12 + 0 ≤ _)⟩)
  dsimp only [Pt.U, Pt.locs, Pt.cells, Pt.slots] at X18 l18 y18 z18 st18 hQ18
  subst l18 y18 z18
  obtain ⟨rfl, rfl, e18⟩ := hQ18
  try rw [List.append_nil] at X18
  refine own_go (st18 _ (Steps.refl _)) ?_
  show own_Go p e below _ (T18.setTop (mkF m 200 #[.val (.int va), .val (.int vb), .val (.int vc), .val (.int vd), .val (.int sp), .val (.int (Int32.ofNat f0)), .val (.int (Int32.ofNat f1)), .val (.int (Int32.ofNat f2)), .val (.int (Int32.ofNat f3)), .val (.ref b7), .val (.ref b12), .val (.ref b17), .val (.int (Int32.ofNat f0)), .val (.int (Int32.ofNat (f0 + f1))), .val (.int (Int32.ofNat (f0 + f1 + f2)))] [(.int (own_exp (1 : Int32) vb va (Int32.ofNat f0) (Int32.ofNat (f0 + f1)) (Int32.ofNat (f0 + f1 + f2)))), (.int (own_gaps (own_P va vb vc vd) f0 f1 f2 f3 1))]))
  refine own_go (XS.icmpNo X18.here hx rfl (hb hby at_200) rfl (teq hall.2.1).2 (Steps.refl _)) ?_
  show own_Go p e below _ (T18.setTop (mkF m 203 #[.val (.int va), .val (.int vb), .val (.int vc), .val (.int vd), .val (.int sp), .val (.int (Int32.ofNat f0)), .val (.int (Int32.ofNat f1)), .val (.int (Int32.ofNat f2)), .val (.int (Int32.ofNat f3)), .val (.ref b7), .val (.ref b12), .val (.ref b17), .val (.int (Int32.ofNat f0)), .val (.int (Int32.ofNat (f0 + f1))), .val (.int (Int32.ofNat (f0 + f1 + f2)))] []))
  refine own_go (XS.aload X18.here hx rfl (hb hby at_203) rfl rfl (Steps.refl _)) ?_
  show own_Go p e below _ (T18.setTop (mkF m 205 #[.val (.int va), .val (.int vb), .val (.int vc), .val (.int vd), .val (.int sp), .val (.int (Int32.ofNat f0)), .val (.int (Int32.ofNat f1)), .val (.int (Int32.ofNat f2)), .val (.int (Int32.ofNat f3)), .val (.ref b7), .val (.ref b12), .val (.ref b17), .val (.int (Int32.ofNat f0)), .val (.int (Int32.ofNat (f0 + f1))), .val (.int (Int32.ofNat (f0 + f1 + f2)))] [(.ref b17)]))
  refine own_go (XS.iconst X18.here hx rfl (hb hby at_205) (Steps.refl _)) ?_
  show own_Go p e below _ (T18.setTop (mkF m 206 #[.val (.int va), .val (.int vb), .val (.int vc), .val (.int vd), .val (.int sp), .val (.int (Int32.ofNat f0)), .val (.int (Int32.ofNat f1)), .val (.int (Int32.ofNat f2)), .val (.int (Int32.ofNat f3)), .val (.ref b7), .val (.ref b12), .val (.ref b17), .val (.int (Int32.ofNat f0)), .val (.int (Int32.ofNat (f0 + f1))), .val (.int (Int32.ofNat (f0 + f1 + f2)))] [(.int (2 : Int32)), (.ref b17)]))
  refine own_go (own_ldI X18 hx hZ e18 V17 (by decide) (by decide) (v := (own_gaps (own_P va vb vc vd) f0 f1 f2 f3 2)) rfl (g := (mkF m 206 #[.val (.int va), .val (.int vb), .val (.int vc), .val (.int vd), .val (.int sp), .val (.int (Int32.ofNat f0)), .val (.int (Int32.ofNat f1)), .val (.int (Int32.ofNat f2)), .val (.int (Int32.ofNat f3)), .val (.ref b7), .val (.ref b12), .val (.ref b17), .val (.int (Int32.ofNat f0)), .val (.int (Int32.ofNat (f0 + f1))), .val (.int (Int32.ofNat (f0 + f1 + f2)))] [(.int (2 : Int32)), (.ref b17)])) rfl rfl (hb hby at_206)) ?_
  show own_Go p e below _ (T18.setTop (mkF m 207 #[.val (.int va), .val (.int vb), .val (.int vc), .val (.int vd), .val (.int sp), .val (.int (Int32.ofNat f0)), .val (.int (Int32.ofNat f1)), .val (.int (Int32.ofNat f2)), .val (.int (Int32.ofNat f3)), .val (.ref b7), .val (.ref b12), .val (.ref b17), .val (.int (Int32.ofNat f0)), .val (.int (Int32.ofNat (f0 + f1))), .val (.int (Int32.ofNat (f0 + f1 + f2)))] [(.int (own_gaps (own_P va vb vc vd) f0 f1 f2 f3 2))]))
  refine own_go (XS.iconst X18.here hx rfl (hb hby at_207) (Steps.refl _)) ?_
  show own_Go p e below _ (T18.setTop (mkF m 208 #[.val (.int va), .val (.int vb), .val (.int vc), .val (.int vd), .val (.int sp), .val (.int (Int32.ofNat f0)), .val (.int (Int32.ofNat f1)), .val (.int (Int32.ofNat f2)), .val (.int (Int32.ofNat f3)), .val (.ref b7), .val (.ref b12), .val (.ref b17), .val (.int (Int32.ofNat f0)), .val (.int (Int32.ofNat (f0 + f1))), .val (.int (Int32.ofNat (f0 + f1 + f2)))] [(.int (2 : Int32)), (.int (own_gaps (own_P va vb vc vd) f0 f1 f2 f3 2))]))
  refine own_go (XS.iloadN X18.here hx rfl (hb hby at_208) rfl (Steps.refl _)) ?_
  show own_Go p e below _ (T18.setTop (mkF m 209 #[.val (.int va), .val (.int vb), .val (.int vc), .val (.int vd), .val (.int sp), .val (.int (Int32.ofNat f0)), .val (.int (Int32.ofNat f1)), .val (.int (Int32.ofNat f2)), .val (.int (Int32.ofNat f3)), .val (.ref b7), .val (.ref b12), .val (.ref b17), .val (.int (Int32.ofNat f0)), .val (.int (Int32.ofNat (f0 + f1))), .val (.int (Int32.ofNat (f0 + f1 + f2)))] [(.int vc), (.int (2 : Int32)), (.int (own_gaps (own_P va vb vc vd) f0 f1 f2 f3 2))]))
  refine own_go (XS.iloadN X18.here hx rfl (hb hby at_209) rfl (Steps.refl _)) ?_
  show own_Go p e below _ (T18.setTop (mkF m 210 #[.val (.int va), .val (.int vb), .val (.int vc), .val (.int vd), .val (.int sp), .val (.int (Int32.ofNat f0)), .val (.int (Int32.ofNat f1)), .val (.int (Int32.ofNat f2)), .val (.int (Int32.ofNat f3)), .val (.ref b7), .val (.ref b12), .val (.ref b17), .val (.int (Int32.ofNat f0)), .val (.int (Int32.ofNat (f0 + f1))), .val (.int (Int32.ofNat (f0 + f1 + f2)))] [(.int vb), (.int vc), (.int (2 : Int32)), (.int (own_gaps (own_P va vb vc vd) f0 f1 f2 f3 2))]))
  refine own_go (XS.iload X18.here hx rfl (hb hby at_210) rfl (Steps.refl _)) ?_
  show own_Go p e below _ (T18.setTop (mkF m 212 #[.val (.int va), .val (.int vb), .val (.int vc), .val (.int vd), .val (.int sp), .val (.int (Int32.ofNat f0)), .val (.int (Int32.ofNat f1)), .val (.int (Int32.ofNat f2)), .val (.int (Int32.ofNat f3)), .val (.ref b7), .val (.ref b12), .val (.ref b17), .val (.int (Int32.ofNat f0)), .val (.int (Int32.ofNat (f0 + f1))), .val (.int (Int32.ofNat (f0 + f1 + f2)))] [(.int (Int32.ofNat f0)), (.int vb), (.int vc), (.int (2 : Int32)), (.int (own_gaps (own_P va vb vc vd) f0 f1 f2 f3 2))]))
  refine own_go (XS.iload X18.here hx rfl (hb hby at_212) rfl (Steps.refl _)) ?_
  show own_Go p e below _ (T18.setTop (mkF m 214 #[.val (.int va), .val (.int vb), .val (.int vc), .val (.int vd), .val (.int sp), .val (.int (Int32.ofNat f0)), .val (.int (Int32.ofNat f1)), .val (.int (Int32.ofNat f2)), .val (.int (Int32.ofNat f3)), .val (.ref b7), .val (.ref b12), .val (.ref b17), .val (.int (Int32.ofNat f0)), .val (.int (Int32.ofNat (f0 + f1))), .val (.int (Int32.ofNat (f0 + f1 + f2)))] [(.int (Int32.ofNat (f0 + f1))), (.int (Int32.ofNat f0)), (.int vb), (.int vc), (.int (2 : Int32)), (.int (own_gaps (own_P va vb vc vd) f0 f1 f2 f3 2))]))
  refine own_go (XS.iload X18.here hx rfl (hb hby at_214) rfl (Steps.refl _)) ?_
  show own_Go p e below _ (T18.setTop (mkF m 216 #[.val (.int va), .val (.int vb), .val (.int vc), .val (.int vd), .val (.int sp), .val (.int (Int32.ofNat f0)), .val (.int (Int32.ofNat f1)), .val (.int (Int32.ofNat f2)), .val (.int (Int32.ofNat f3)), .val (.ref b7), .val (.ref b12), .val (.ref b17), .val (.int (Int32.ofNat f0)), .val (.int (Int32.ofNat (f0 + f1))), .val (.int (Int32.ofNat (f0 + f1 + f2)))] [(.int (Int32.ofNat (f0 + f1 + f2))), (.int (Int32.ofNat (f0 + f1))), (.int (Int32.ofNat f0)), (.int vb), (.int vc), (.int (2 : Int32)), (.int (own_gaps (own_P va vb vc vd) f0 f1 f2 f3 2))]))
  obtain ⟨_, _, ⟨T19, L19, k19, n19⟩, -, X19, ⟨Lc19, hQ19, l19, y19, z19⟩, st19⟩ := Jvm.LawKit.callS X18 hx (y := (⟨"com/example/lexigap/lexigap/GapsOfPositionsPinLaw", "expected", "(IIIIII)I"⟩ : MethodName)) hown (mvT hZ (hw _ (List.mem_of_getElem? (i := 5) rfl))) (mvT hZ (hw _ (List.mem_of_getElem? (i := 6) rfl))) (mvT hZ (hw _ (List.mem_of_getElem? (i := 7) rfl))) (mvT hZ (hw _ (List.mem_of_getElem? (i := 8) rfl))) (by decide) (own_pays (W := 1) (rm_exp l Z a0 hw (2 : Int32) vc vb (Int32.ofNat f0) (Int32.ofNat (f0 + f1)) (Int32.ofNat (f0 + f1 + f2)) h17 n0 Zl17) hZ (hw _ (List.mem_of_getElem? (i := 8) rfl)) (hw _ (List.mem_of_getElem? (i := 7) rfl)) (by decide) (by decide)) (g := (mkF m 216 #[.val (.int va), .val (.int vb), .val (.int vc), .val (.int vd), .val (.int sp), .val (.int (Int32.ofNat f0)), .val (.int (Int32.ofNat f1)), .val (.int (Int32.ofNat f2)), .val (.int (Int32.ofNat f3)), .val (.ref b7), .val (.ref b12), .val (.ref b17), .val (.int (Int32.ofNat f0)), .val (.int (Int32.ofNat (f0 + f1))), .val (.int (Int32.ofNat (f0 + f1 + f2)))] [(.int (Int32.ofNat (f0 + f1 + f2))), (.int (Int32.ofNat (f0 + f1))), (.int (Int32.ofNat f0)), (.int vb), (.int vc), (.int (2 : Int32)), (.int (own_gaps (own_P va vb vc vd) f0 f1 f2 f3 2))])) rfl (by rw [hml]; rfl) (argsL := [(.int (2 : Int32)), (.int vc), (.int vb), (.int (Int32.ofNat f0)), (.int (Int32.ofNat (f0 + f1))), (.int (Int32.ofNat (f0 + f1 + f2)))]) (rest := [(.int (own_gaps (own_P va vb vc vd) f0 f1 f2 f3 2))]) (lenOf own_f7 rfl) rfl (by show 2 * 0 + _ ≤ _; exact Nat.le_of_eq rfl) (hb hby at_216) (fun _ _ => ⟨rfl, e18, (by decide : 3 + 0 ≤ _), (by decide : 12 + 0 ≤ _)⟩)
  dsimp only [Pt.U, Pt.locs, Pt.cells, Pt.slots] at X19 l19 y19 z19 st19 hQ19
  subst l19 y19 z19
  obtain ⟨rfl, rfl, e19⟩ := hQ19
  try rw [List.append_nil] at X19
  refine own_go (st19 _ (Steps.refl _)) ?_
  show own_Go p e below _ (T19.setTop (mkF m 219 #[.val (.int va), .val (.int vb), .val (.int vc), .val (.int vd), .val (.int sp), .val (.int (Int32.ofNat f0)), .val (.int (Int32.ofNat f1)), .val (.int (Int32.ofNat f2)), .val (.int (Int32.ofNat f3)), .val (.ref b7), .val (.ref b12), .val (.ref b17), .val (.int (Int32.ofNat f0)), .val (.int (Int32.ofNat (f0 + f1))), .val (.int (Int32.ofNat (f0 + f1 + f2)))] [(.int (own_exp (2 : Int32) vc vb (Int32.ofNat f0) (Int32.ofNat (f0 + f1)) (Int32.ofNat (f0 + f1 + f2)))), (.int (own_gaps (own_P va vb vc vd) f0 f1 f2 f3 2))]))
  refine own_go (XS.icmpNo X19.here hx rfl (hb hby at_219) rfl (teq hall.2.2.1).2 (Steps.refl _)) ?_
  show own_Go p e below _ (T19.setTop (mkF m 222 #[.val (.int va), .val (.int vb), .val (.int vc), .val (.int vd), .val (.int sp), .val (.int (Int32.ofNat f0)), .val (.int (Int32.ofNat f1)), .val (.int (Int32.ofNat f2)), .val (.int (Int32.ofNat f3)), .val (.ref b7), .val (.ref b12), .val (.ref b17), .val (.int (Int32.ofNat f0)), .val (.int (Int32.ofNat (f0 + f1))), .val (.int (Int32.ofNat (f0 + f1 + f2)))] []))
  refine own_go (XS.aload X19.here hx rfl (hb hby at_222) rfl rfl (Steps.refl _)) ?_
  show own_Go p e below _ (T19.setTop (mkF m 224 #[.val (.int va), .val (.int vb), .val (.int vc), .val (.int vd), .val (.int sp), .val (.int (Int32.ofNat f0)), .val (.int (Int32.ofNat f1)), .val (.int (Int32.ofNat f2)), .val (.int (Int32.ofNat f3)), .val (.ref b7), .val (.ref b12), .val (.ref b17), .val (.int (Int32.ofNat f0)), .val (.int (Int32.ofNat (f0 + f1))), .val (.int (Int32.ofNat (f0 + f1 + f2)))] [(.ref b17)]))
  refine own_go (XS.iconst X19.here hx rfl (hb hby at_224) (Steps.refl _)) ?_
  show own_Go p e below _ (T19.setTop (mkF m 225 #[.val (.int va), .val (.int vb), .val (.int vc), .val (.int vd), .val (.int sp), .val (.int (Int32.ofNat f0)), .val (.int (Int32.ofNat f1)), .val (.int (Int32.ofNat f2)), .val (.int (Int32.ofNat f3)), .val (.ref b7), .val (.ref b12), .val (.ref b17), .val (.int (Int32.ofNat f0)), .val (.int (Int32.ofNat (f0 + f1))), .val (.int (Int32.ofNat (f0 + f1 + f2)))] [(.int (3 : Int32)), (.ref b17)]))
  refine own_go (own_ldI X19 hx hZ e19 V17 (by decide) (by decide) (v := (own_gaps (own_P va vb vc vd) f0 f1 f2 f3 3)) rfl (g := (mkF m 225 #[.val (.int va), .val (.int vb), .val (.int vc), .val (.int vd), .val (.int sp), .val (.int (Int32.ofNat f0)), .val (.int (Int32.ofNat f1)), .val (.int (Int32.ofNat f2)), .val (.int (Int32.ofNat f3)), .val (.ref b7), .val (.ref b12), .val (.ref b17), .val (.int (Int32.ofNat f0)), .val (.int (Int32.ofNat (f0 + f1))), .val (.int (Int32.ofNat (f0 + f1 + f2)))] [(.int (3 : Int32)), (.ref b17)])) rfl rfl (hb hby at_225)) ?_
  show own_Go p e below _ (T19.setTop (mkF m 226 #[.val (.int va), .val (.int vb), .val (.int vc), .val (.int vd), .val (.int sp), .val (.int (Int32.ofNat f0)), .val (.int (Int32.ofNat f1)), .val (.int (Int32.ofNat f2)), .val (.int (Int32.ofNat f3)), .val (.ref b7), .val (.ref b12), .val (.ref b17), .val (.int (Int32.ofNat f0)), .val (.int (Int32.ofNat (f0 + f1))), .val (.int (Int32.ofNat (f0 + f1 + f2)))] [(.int (own_gaps (own_P va vb vc vd) f0 f1 f2 f3 3))]))
  refine own_go (XS.iconst X19.here hx rfl (hb hby at_226) (Steps.refl _)) ?_
  show own_Go p e below _ (T19.setTop (mkF m 227 #[.val (.int va), .val (.int vb), .val (.int vc), .val (.int vd), .val (.int sp), .val (.int (Int32.ofNat f0)), .val (.int (Int32.ofNat f1)), .val (.int (Int32.ofNat f2)), .val (.int (Int32.ofNat f3)), .val (.ref b7), .val (.ref b12), .val (.ref b17), .val (.int (Int32.ofNat f0)), .val (.int (Int32.ofNat (f0 + f1))), .val (.int (Int32.ofNat (f0 + f1 + f2)))] [(.int (3 : Int32)), (.int (own_gaps (own_P va vb vc vd) f0 f1 f2 f3 3))]))
  refine own_go (XS.iloadN X19.here hx rfl (hb hby at_227) rfl (Steps.refl _)) ?_
  show own_Go p e below _ (T19.setTop (mkF m 228 #[.val (.int va), .val (.int vb), .val (.int vc), .val (.int vd), .val (.int sp), .val (.int (Int32.ofNat f0)), .val (.int (Int32.ofNat f1)), .val (.int (Int32.ofNat f2)), .val (.int (Int32.ofNat f3)), .val (.ref b7), .val (.ref b12), .val (.ref b17), .val (.int (Int32.ofNat f0)), .val (.int (Int32.ofNat (f0 + f1))), .val (.int (Int32.ofNat (f0 + f1 + f2)))] [(.int vd), (.int (3 : Int32)), (.int (own_gaps (own_P va vb vc vd) f0 f1 f2 f3 3))]))
  refine own_go (XS.iloadN X19.here hx rfl (hb hby at_228) rfl (Steps.refl _)) ?_
  show own_Go p e below _ (T19.setTop (mkF m 229 #[.val (.int va), .val (.int vb), .val (.int vc), .val (.int vd), .val (.int sp), .val (.int (Int32.ofNat f0)), .val (.int (Int32.ofNat f1)), .val (.int (Int32.ofNat f2)), .val (.int (Int32.ofNat f3)), .val (.ref b7), .val (.ref b12), .val (.ref b17), .val (.int (Int32.ofNat f0)), .val (.int (Int32.ofNat (f0 + f1))), .val (.int (Int32.ofNat (f0 + f1 + f2)))] [(.int vc), (.int vd), (.int (3 : Int32)), (.int (own_gaps (own_P va vb vc vd) f0 f1 f2 f3 3))]))
  refine own_go (XS.iload X19.here hx rfl (hb hby at_229) rfl (Steps.refl _)) ?_
  show own_Go p e below _ (T19.setTop (mkF m 231 #[.val (.int va), .val (.int vb), .val (.int vc), .val (.int vd), .val (.int sp), .val (.int (Int32.ofNat f0)), .val (.int (Int32.ofNat f1)), .val (.int (Int32.ofNat f2)), .val (.int (Int32.ofNat f3)), .val (.ref b7), .val (.ref b12), .val (.ref b17), .val (.int (Int32.ofNat f0)), .val (.int (Int32.ofNat (f0 + f1))), .val (.int (Int32.ofNat (f0 + f1 + f2)))] [(.int (Int32.ofNat f0)), (.int vc), (.int vd), (.int (3 : Int32)), (.int (own_gaps (own_P va vb vc vd) f0 f1 f2 f3 3))]))
  refine own_go (XS.iload X19.here hx rfl (hb hby at_231) rfl (Steps.refl _)) ?_
  show own_Go p e below _ (T19.setTop (mkF m 233 #[.val (.int va), .val (.int vb), .val (.int vc), .val (.int vd), .val (.int sp), .val (.int (Int32.ofNat f0)), .val (.int (Int32.ofNat f1)), .val (.int (Int32.ofNat f2)), .val (.int (Int32.ofNat f3)), .val (.ref b7), .val (.ref b12), .val (.ref b17), .val (.int (Int32.ofNat f0)), .val (.int (Int32.ofNat (f0 + f1))), .val (.int (Int32.ofNat (f0 + f1 + f2)))] [(.int (Int32.ofNat (f0 + f1))), (.int (Int32.ofNat f0)), (.int vc), (.int vd), (.int (3 : Int32)), (.int (own_gaps (own_P va vb vc vd) f0 f1 f2 f3 3))]))
  refine own_go (XS.iload X19.here hx rfl (hb hby at_233) rfl (Steps.refl _)) ?_
  show own_Go p e below _ (T19.setTop (mkF m 235 #[.val (.int va), .val (.int vb), .val (.int vc), .val (.int vd), .val (.int sp), .val (.int (Int32.ofNat f0)), .val (.int (Int32.ofNat f1)), .val (.int (Int32.ofNat f2)), .val (.int (Int32.ofNat f3)), .val (.ref b7), .val (.ref b12), .val (.ref b17), .val (.int (Int32.ofNat f0)), .val (.int (Int32.ofNat (f0 + f1))), .val (.int (Int32.ofNat (f0 + f1 + f2)))] [(.int (Int32.ofNat (f0 + f1 + f2))), (.int (Int32.ofNat (f0 + f1))), (.int (Int32.ofNat f0)), (.int vc), (.int vd), (.int (3 : Int32)), (.int (own_gaps (own_P va vb vc vd) f0 f1 f2 f3 3))]))
  obtain ⟨_, _, ⟨T20, L20, k20, n20⟩, -, X20, ⟨Lc20, hQ20, l20, y20, z20⟩, st20⟩ := Jvm.LawKit.callS X19 hx (y := (⟨"com/example/lexigap/lexigap/GapsOfPositionsPinLaw", "expected", "(IIIIII)I"⟩ : MethodName)) hown (mvT hZ (hw _ (List.mem_of_getElem? (i := 5) rfl))) (mvT hZ (hw _ (List.mem_of_getElem? (i := 6) rfl))) (mvT hZ (hw _ (List.mem_of_getElem? (i := 7) rfl))) (mvT hZ (hw _ (List.mem_of_getElem? (i := 8) rfl))) (by decide) (own_pays (W := 1) (rm_exp l Z a0 hw (3 : Int32) vd vc (Int32.ofNat f0) (Int32.ofNat (f0 + f1)) (Int32.ofNat (f0 + f1 + f2)) h17 n0 Zl17) hZ (hw _ (List.mem_of_getElem? (i := 8) rfl)) (hw _ (List.mem_of_getElem? (i := 7) rfl)) (by decide) (by decide)) (g := (mkF m 235 #[.val (.int va), .val (.int vb), .val (.int vc), .val (.int vd), .val (.int sp), .val (.int (Int32.ofNat f0)), .val (.int (Int32.ofNat f1)), .val (.int (Int32.ofNat f2)), .val (.int (Int32.ofNat f3)), .val (.ref b7), .val (.ref b12), .val (.ref b17), .val (.int (Int32.ofNat f0)), .val (.int (Int32.ofNat (f0 + f1))), .val (.int (Int32.ofNat (f0 + f1 + f2)))] [(.int (Int32.ofNat (f0 + f1 + f2))), (.int (Int32.ofNat (f0 + f1))), (.int (Int32.ofNat f0)), (.int vc), (.int vd), (.int (3 : Int32)), (.int (own_gaps (own_P va vb vc vd) f0 f1 f2 f3 3))])) rfl (by rw [hml]; rfl) (argsL := [(.int (3 : Int32)), (.int vd), (.int vc), (.int (Int32.ofNat f0)), (.int (Int32.ofNat (f0 + f1))), (.int (Int32.ofNat (f0 + f1 + f2)))]) (rest := [(.int (own_gaps (own_P va vb vc vd) f0 f1 f2 f3 3))]) (lenOf own_f7 rfl) rfl (by show 2 * 0 + _ ≤ _; exact Nat.le_of_eq rfl) (hb hby at_235) (fun _ _ => ⟨rfl, e19, (by decide : 3 + 0 ≤ _), (by decide : 12 + 0 ≤ _)⟩)
  dsimp only [Pt.U, Pt.locs, Pt.cells, Pt.slots] at X20 l20 y20 z20 st20 hQ20
  subst l20 y20 z20
  obtain ⟨rfl, rfl, e20⟩ := hQ20
  try rw [List.append_nil] at X20
  refine own_go (st20 _ (Steps.refl _)) ?_
  show own_Go p e below _ (T20.setTop (mkF m 238 #[.val (.int va), .val (.int vb), .val (.int vc), .val (.int vd), .val (.int sp), .val (.int (Int32.ofNat f0)), .val (.int (Int32.ofNat f1)), .val (.int (Int32.ofNat f2)), .val (.int (Int32.ofNat f3)), .val (.ref b7), .val (.ref b12), .val (.ref b17), .val (.int (Int32.ofNat f0)), .val (.int (Int32.ofNat (f0 + f1))), .val (.int (Int32.ofNat (f0 + f1 + f2)))] [(.int (own_exp (3 : Int32) vd vc (Int32.ofNat f0) (Int32.ofNat (f0 + f1)) (Int32.ofNat (f0 + f1 + f2)))), (.int (own_gaps (own_P va vb vc vd) f0 f1 f2 f3 3))]))
  refine own_go (XS.icmpNo X20.here hx rfl (hb hby at_238) rfl (teq hall.2.2.2).2 (Steps.refl _)) ?_
  show own_Go p e below _ (T20.setTop (mkF m 241 #[.val (.int va), .val (.int vb), .val (.int vc), .val (.int vd), .val (.int sp), .val (.int (Int32.ofNat f0)), .val (.int (Int32.ofNat f1)), .val (.int (Int32.ofNat f2)), .val (.int (Int32.ofNat f3)), .val (.ref b7), .val (.ref b12), .val (.ref b17), .val (.int (Int32.ofNat f0)), .val (.int (Int32.ofNat (f0 + f1))), .val (.int (Int32.ofNat (f0 + f1 + f2)))] []))
  refine own_go (XS.iconst X20.here hx rfl (hb hby at_241) (Steps.refl _)) ?_
  show own_Go p e below _ (T20.setTop (mkF m 242 #[.val (.int va), .val (.int vb), .val (.int vc), .val (.int vd), .val (.int sp), .val (.int (Int32.ofNat f0)), .val (.int (Int32.ofNat f1)), .val (.int (Int32.ofNat f2)), .val (.int (Int32.ofNat f3)), .val (.ref b7), .val (.ref b12), .val (.ref b17), .val (.int (Int32.ofNat f0)), .val (.int (Int32.ofNat (f0 + f1))), .val (.int (Int32.ofNat (f0 + f1 + f2)))] [(.int (1 : Int32))]))
  refine own_go (XS.goto X20.here hx rfl (pc0 := 242) (pc' := 246) rfl (hb hby at_242) (by decide) (by decide) (Steps.refl _)) ?_
  show own_Go p e below _ (T20.setTop (mkF m 246 #[.val (.int va), .val (.int vb), .val (.int vc), .val (.int vd), .val (.int sp), .val (.int (Int32.ofNat f0)), .val (.int (Int32.ofNat f1)), .val (.int (Int32.ofNat f2)), .val (.int (Int32.ofNat f3)), .val (.ref b7), .val (.ref b12), .val (.ref b17), .val (.int (Int32.ofNat f0)), .val (.int (Int32.ofNat (f0 + f1))), .val (.int (Int32.ofNat (f0 + f1 + f2)))] [(.int (1 : Int32))]))
  exact own_retZ X20 hx hlk e20 Bd.returns (hb hby at_246) (Or.inr rfl) ⟨rfl, N17⟩ (by decide) (by decide)
set_option maxRecDepth 65536 in
set_option maxHeartbeats 40000000 in
theorem comes_1 {Post : Tables → Env → Array Value → State → Outcome → State → Prop} (hpost : ∀ tb e args s v u, (limb_1_1.after args s (.returned v) u = true ∧ limb_1_2.after args s (.returned v) u = true ∧ True) → FrameEnd s (.returned v) u (Jvm.fieldLocs frame_1_writes args s ++ Jvm.arrayLocs frame_1_arrays args s ++ Jvm.staticLocs frame_1_statics s) 16 128 → Post tb e args s (.returned v) u) :
    ArmFor flags0 classFile x code maxLocals ret World_1 tables_1 room_1 Calls_1 rest_1 Pre_1 Post := by
  intro l hfl _ _ p e ha hc hk s m args below hf hA hF happ hP
  obtain ⟨hcalls, hrest, hpre⟩ := hP
  obtain ⟨-, -, -, hnamed, -, -, -, hat⟩ := (Spec.applies_iff hf).mp happ
  obtain ⟨hg, hn⟩ := and_e (Cond.before_iff.mp (show (Jvm.Cond.and given_1 narrow_1).before args s = true from hpre))
  obtain ⟨gc, ga0⟩ := and_e hg
  obtain ⟨w0, w1, w2, w3, w4, rfl⟩ : ∃ w0 w1 w2 w3 w4 : Value, args = #[w0, w1, w2, w3, w4] := by
    have hs : args.size = 5 := by simpa [Cond.value, given_1] using gc
    obtain ⟨L⟩ := args
    match L, hs with
    | [w0, w1, w2, w3, w4], _ => exact ⟨w0, w1, w2, w3, w4, rfl⟩
  have hw := fun d (hd : d ∈ tables_1) => atoms_spec (ws := Jvm.Cond.code x code maxLocals ret :: tables_1) hat d (List.mem_cons_of_mem _ hd)
  obtain ⟨gb0, ga1⟩ := and_e ga0
  obtain ⟨i0, ei0⟩ := is_v gb0
  obtain rfl : w0 = (.int i0) := Option.some.inj ei0
  obtain ⟨gb1, ga2⟩ := and_e ga1
  obtain ⟨i1, ei1⟩ := is_v gb1
  obtain rfl : w1 = (.int i1) := Option.some.inj ei1
  obtain ⟨gb2, ga3⟩ := and_e ga2
  obtain ⟨i2, ei2⟩ := is_v gb2
  obtain rfl : w2 = (.int i2) := Option.some.inj ei2
  obtain ⟨gb3, ga4⟩ := and_e ga3
  obtain ⟨i3, ei3⟩ := is_v gb3
  obtain rfl : w3 = (.int i3) := Option.some.inj ei3
  obtain ⟨i4, ei4⟩ := is_v ga4
  obtain rfl : w4 = (.int i4) := Option.some.inj ei4
  obtain ⟨n, o, h1, h2, h3, _, L, rfl, ⟨rfl, N⟩, hq⟩ := rm_law l s _ hw i0 i1 i2 i3 i4 s.heap s.heap.size (Nat.le_refl _) p e ha hc hk s m _ below hf ((Spec.applies_iff_loose hf).mp happ).1 ⟨rfl, State.Warmed39.refl s, rfl⟩ trivial
  exact ⟨n, _, h1, h2, h3, hpost _ _ _ _ _ _ ⟨Cond.after_iff.mpr rfl, Cond.after_iff.mpr (eq_i res_at (Term.int_eval (1)) rfl), trivial⟩ ⟨hq.1, hq.2.1, (hq.2.2.sift fun y hy => Or.inr (N y hy)).mono (by decide) (by decide)⟩⟩
theorem main_1_1 : Claimed_1_1 := comes_1 fun _ _ _ _ _ _ h hF => ⟨h.1, hF⟩
theorem main_1_2 : Claimed_1_2 := comes_1 fun _ _ _ _ _ _ h hF => ⟨h.2.1, hF⟩
end Jvm.Pilot.@@N@@
namespace Jvm.Pilot.@@N@@
open Jvm Jvm.ClassFile Sem Op Lib Jvm.Free Jvm.Stand Jvm.Pilot.@@N@@.Jvm.D
/-! MADE BY PROGRAM (witnessworld.py) out of the Statement's table words and the real class files: 9 classes; the members and pool entries that the words name. The judged class is class 1, her method 1. -/
namespace start1
open Jvm.ClassFile
def u (s : String) : CpInfo := .utf8 (stringToUtf16 s)
/-- a pool by its gaps: so many unusable entries, then the entry; so many at the end -/
def gap : Nat → List CpInfo → List CpInfo
  | 0, r => r
  | n + 1, r => .unusable :: gap n r
def poolList (es : List (Nat × CpInfo)) (last : Nat) : List CpInfo := es.foldr (fun e r => gap e.1 (e.2 :: r)) (gap last [])
def pool (es : List (Nat × CpInfo)) (last : Nat) : Array CpInfo := ⟨poolList es last⟩
def fileOf (pool : Array CpInfo) (this : Nat) (attrs : Array Attribute := #[]) (ms : Array MethodInfo := #[]) (fl : Nat := 33) (sup : Nat := 0) (ifs : Array Nat := #[]) (fds : Array FieldInfo := #[]) : ClassFile where
  minorVersion := 0
  majorVersion := 65
  constantPool := pool
  accessFlags := fl
  thisClass := this
  superClass := sup
  interfaces := ifs
  fields := fds
  methods := ms
  attributes := attrs
def plain (name : String) (sup : Option ClassId) : Class where
  name := name
  kind := .ordinary
  loader := none
  accessFlags := 33
  super := sup
  interfaces := #[]
  cf := none
  fields := #[]
  methods := #[]
  instanceTypes := #[]
  staticTypes := #[]
  resolved := #[]
  callSites := []
  init := .initialized
  statics := none
  mirror := none

def pool0 : Array CpInfo := pool [(5, u "<init>"), (0, u "()V"), (1, .class_ 10), (1, u "java/lang/Object")] 113

def k0m0 : Method := { name := "<init>", desc := "()V", sig := { parameters := [], returnType := none }, accessFlags := 1, code := none }
/-- java/lang/Object -/
def k0 : Class := { plain "java/lang/Object" none with
  accessFlags := 33
  interfaces := #[]
  cf := some (fileOf pool0 8 #[] #[{ accessFlags := 1, nameIndex := 5, descriptorIndex := 6, attributes := #[] }] 33 0 #[] #[])
  fields := #[]
  methods := #[k0m0]
  instanceTypes := #[]
  staticTypes := #[]
  resolved := Array.replicate 124 none
  statics := none }

def pool1 : Array CpInfo := pool [(2, .class_ 4), (1, u "java/lang/Object"), (0, u "<init>"), (0, u "()V"), (0, .methodref 8 9), (0, .class_ 10), (0, .nameAndType 11 12), (0, u "com/example/lexigap/lexigap/Gaps"), (0, u "ofPositions"), (0, u "([I[I)[I"), (0, .methodref 14 15), (0, .class_ 16), (0, .nameAndType 17 18), (0, u "com/example/lexigap/lexigap/GapsOfPositionsPinLaw"), (0, u "expected"), (0, u "(IIIIII)I"), (2, u "law"), (0, u "(IIIII)Z")] 5

def k1m0 : Method := { name := "<init>", desc := "()V", sig := { parameters := [], returnType := none }, accessFlags := 1, code := none }
def k1c1 : Code := { maxStack := 7, maxLocals := 15, code := code, exceptionTable := #[], attributes := #[] }
def k1m1 : Method := { name := "law", desc := "(IIIII)Z", sig := { parameters := [.int, .int, .int, .int, .int], returnType := some .boolean }, accessFlags := 9, code := some k1c1 }
def k1c2 : Code := { maxStack := 2, maxLocals := 7, code := method_3_code, exceptionTable := #[], attributes := #[] }
def k1m2 : Method := { name := "expected", desc := "(IIIIII)I", sig := { parameters := [.int, .int, .int, .int, .int, .int], returnType := some .int }, accessFlags := 10, code := some k1c2 }
/-- com/example/lexigap/lexigap/GapsOfPositionsPinLaw -/
def k1 : Class := { plain "com/example/lexigap/lexigap/GapsOfPositionsPinLaw" (some 0) with
  accessFlags := 49
  interfaces := #[]
  cf := some (fileOf pool1 14 #[] #[{ accessFlags := 1, nameIndex := 5, descriptorIndex := 6, attributes := #[] }, { accessFlags := 9, nameIndex := 21, descriptorIndex := 22, attributes := #[] }, { accessFlags := 10, nameIndex := 17, descriptorIndex := 18, attributes := #[] }] 49 2 #[] #[])
  fields := #[]
  methods := #[k1m0, k1m1, k1m2]
  instanceTypes := #[]
  staticTypes := #[]
  resolved := Array.replicate 28 none
  statics := none }

def pool2 : Array CpInfo := pool [(2, .class_ 4), (1, u "java/lang/Object"), (0, u "<init>"), (0, u "()V"), (5, .class_ 14), (1, u "com/example/lexigap/lexigap/Gaps"), (26, u "ofPositions"), (0, u "([I[I)[I")] 2

def k2m0 : Method := { name := "<init>", desc := "()V", sig := { parameters := [], returnType := none }, accessFlags := 2, code := none }
def k2c1 : Code := { maxStack := 4, maxLocals := 10, code := prog_78_method_4_code, exceptionTable := #[], attributes := #[] }
def k2m1 : Method := { name := "ofPositions", desc := "([I[I)[I", sig := { parameters := [(.array .int), (.array .int)], returnType := some (.array .int) }, accessFlags := 8, code := some k2c1 }
/-- com/example/lexigap/lexigap/Gaps -/
def k2 : Class := { plain "com/example/lexigap/lexigap/Gaps" (some 0) with
  accessFlags := 48
  interfaces := #[]
  cf := some (fileOf pool2 12 #[] #[{ accessFlags := 2, nameIndex := 5, descriptorIndex := 6, attributes := #[] }, { accessFlags := 8, nameIndex := 41, descriptorIndex := 42, attributes := #[] }] 48 2 #[] #[])
  fields := #[]
  methods := #[k2m0, k2m1]
  instanceTypes := #[]
  staticTypes := #[]
  resolved := Array.replicate 45 none
  statics := none }

def pool3 : Array CpInfo := pool [(1, u "java/lang/Cloneable"), (0, .class_ 1), (0, u "java/lang/Object"), (0, .class_ 3)] 3

/-- java/lang/Cloneable -/
def k3 : Class := { plain "java/lang/Cloneable" (some 0) with
  accessFlags := 1537
  interfaces := #[]
  cf := some (fileOf pool3 2 #[] #[] 1537 4 #[] #[])
  fields := #[]
  methods := #[]
  instanceTypes := #[]
  staticTypes := #[]
  resolved := Array.replicate 8 none
  statics := none }

def pool4 : Array CpInfo := pool [(1, u "java/io/Serializable"), (0, .class_ 1), (0, u "java/lang/Object"), (0, .class_ 3)] 3

/-- java/io/Serializable -/
def k4 : Class := { plain "java/io/Serializable" (some 0) with
  accessFlags := 1537
  interfaces := #[]
  cf := some (fileOf pool4 2 #[] #[] 1537 4 #[] #[])
  fields := #[]
  methods := #[]
  instanceTypes := #[]
  staticTypes := #[]
  resolved := Array.replicate 8 none
  statics := none }

/-- the primitive byte -/
def k5 : Class := { plain "byte" none with kind := .primitive 'B', accessFlags := 0x411 }
/-- [B -/
def k6 : Class := { plain "[B" (some 0) with kind := .array 5 .byte, interfaces := #[3, 4], accessFlags := 1041 }

/-- the primitive int -/
def k7 : Class := { plain "int" none with kind := .primitive 'I', accessFlags := 0x411 }
/-- [I -/
def k8 : Class := { plain "[I" (some 0) with kind := .array 7 .int, interfaces := #[3, 4], accessFlags := 1041 }

def heap : Heap := #[]
def classes : Array Class := #[k0, k1, k2, k3, k4, k5, k6, k7, k8]
def interned : List (Array UInt16 × Addr) := []
def slotsUsed : Nat := 0
def theMethod : MethodId := ⟨1, 1⟩
def args0 : Array Value := #[.int 5, .int 8, .int 11, .int 15, .int 77]
def aboutOver (below : List Frame) : State where
  vm := { classes := classes, interned := interned.toArray }
  heap := heap
  slotsUsed := slotsUsed
  threads := #[{ frames := .invoking theMethod args0 :: below }]
def below0 : List Frame := [.native { method := ⟨0, 0⟩, args := #[] }]
def about1 : State := aboutOver below0
def p0 : Program := .bare "" "" ""
def e0 : Env := launch0.env 0 0 0
theorem w_frames : about1.frames = Frame.invoking theMethod args0 :: below0 := rfl
set_option maxRecDepth 65536 in
theorem w_args : argsFit about1.vm theMethod args0 = true := by decide +kernel
set_option maxRecDepth 65536 in
theorem w_heap : heapFits about1 = true := by decide +kernel
set_option maxRecDepth 65536 in
theorem w_runnable : about1.curStatus? = some .runnable := by decide +kernel
set_option maxRecDepth 65536 in
theorem w_alone : about1.alone = true := by decide +kernel
set_option maxRecDepth 65536 in
theorem w_named : about1.methodNamed? x = some theMethod := by decide +kernel
set_option maxRecDepth 65536 in
theorem w_hears : about1.hears theMethod below0 = true := by decide +kernel
set_option maxRecDepth 65536 in
theorem w_ripe : about1.ripe theMethod args0 below0 = true := by decide +kernel
theorem w_running : about1.status = .running := rfl
set_option maxRecDepth 65536 in
theorem w_room : about1.hasRoom e0.platform room_1 = true :=
  launch0.hasRoom_least _ room_1 (by decide +kernel) (by decide +kernel) (by decide +kernel) (by decide +kernel) (by decide +kernel) (by decide +kernel)
theorem allAtoms_all (ts : List Jvm.Cond) (a : Array Jvm.Value) (st : Jvm.State) : (allAtoms ts).before a st = ts.all (fun c => c.before a st) := by
  induction ts with
  | nil => rfl
  | cons c t ih =>
    show (Jvm.Cond.and c (allAtoms t)).before a st = _
    rw [Jvm.Cond.before_and, ih, List.all_cons]
def words1 : List Jvm.Cond := Jvm.Cond.code x code maxLocals ret :: tables_1
/-- a 'code' word, met by the world's own term for the bytes: nothing is compared byte by byte -/
theorem code_word {y : MethodName} {bytes : ByteArray} {mx : Nat} {rt : Option FieldType} {a : Array Value} {s : State} {m : MethodId} {meth : Method} {c : Code} (h1 : s.methodNamed? y = some m) (h2 : s.vm.method? m = some meth) (h3 : meth.code = some c) (h4 : c.code = bytes)
    (h5 : (c.maxLocals == mx && c.exceptionTable.isEmpty && decide (c.maxStack ≤ mostOperands) && decide (meth.sig.returnType = rt) && !meth.locks && decide (parseMethodDescriptor y.desc = some meth.sig)) = true) : (Jvm.Cond.code y bytes mx rt).before a s = true := by
  simp only [Bool.and_eq_true, beq_iff_eq, Bool.not_eq_true', decide_eq_true_eq] at h5
  obtain ⟨⟨⟨⟨⟨g1, g2⟩, g3⟩, g4⟩, g5⟩, g6⟩ := h5
  simp [Cond.before, Cond.holds, Cond.value, h1, h2, h3, h4, g1, g2, g3, g4, g5, g6]
def isCode : Jvm.Cond → Bool
  | .code _ _ _ _ => true
  | _ => false
theorem all_split {L : List Jvm.Cond} {P : Jvm.Cond → Bool} (h1 : L.all (fun c => isCode c || P c) = true) (h2 : ∀ c ∈ L.filter isCode, P c = true) : L.all P = true := by
  refine List.all_eq_true.mpr fun c hc => ?_
  have h := List.all_eq_true.mp h1 c hc
  rcases Bool.eq_false_or_eq_true (isCode c) with hi | hi
  · exact h2 c (List.mem_filter.mpr ⟨hc, hi⟩)
  · simpa [hi] using h
set_option maxRecDepth 65536 in
theorem w_c0 : (Jvm.Cond.code x code maxLocals ret).before args0 about1 = true := code_word (m := ⟨1, 1⟩) (meth := k1m1) (c := k1c1) (by decide +kernel) rfl rfl rfl (by decide +kernel)
set_option maxRecDepth 65536 in
theorem w_c1 : (Jvm.Cond.code ({ cls := "com/example/lexigap/lexigap/Gaps", name := "ofPositions", desc := "([I[I)[I" } : Jvm.MethodName) prog_78_method_4_code (10 : Nat) (Option.some (Jvm.ClassFile.FieldType.array Jvm.ClassFile.FieldType.int))).before args0 about1 = true := code_word (m := ⟨2, 1⟩) (meth := k2m1) (c := k2c1) (by decide +kernel) rfl rfl rfl (by decide +kernel)
set_option maxRecDepth 65536 in
theorem w_c2 : (Jvm.Cond.code ({ cls := "com/example/lexigap/lexigap/GapsOfPositionsPinLaw", name := "expected", desc := "(IIIIII)I" } : Jvm.MethodName) method_3_code (7 : Nat) (Option.some Jvm.ClassFile.FieldType.int)).before args0 about1 = true := code_word (m := ⟨1, 2⟩) (meth := k1m2) (c := k1c2) (by decide +kernel) rfl rfl rfl (by decide +kernel)
def codes1 : List Jvm.Cond := [Jvm.Cond.code x code maxLocals ret, Jvm.Cond.code ({ cls := "com/example/lexigap/lexigap/Gaps", name := "ofPositions", desc := "([I[I)[I" } : Jvm.MethodName) prog_78_method_4_code (10 : Nat) (Option.some (Jvm.ClassFile.FieldType.array Jvm.ClassFile.FieldType.int)), Jvm.Cond.code ({ cls := "com/example/lexigap/lexigap/GapsOfPositionsPinLaw", name := "expected", desc := "(IIIIII)I" } : Jvm.MethodName) method_3_code (7 : Nat) (Option.some Jvm.ClassFile.FieldType.int)]
set_option maxRecDepth 65536 in
theorem codes_eq : words1.filter isCode = codes1 := rfl
theorem w_codes : ∀ c ∈ words1.filter isCode, c.before args0 about1 = true := by
  rw [codes_eq]
  intro c hc
  simp only [codes1, List.mem_cons, List.not_mem_nil, or_false] at hc
  rcases hc with rfl | rfl | rfl
  · exact w_c0
  · exact w_c1
  · exact w_c2
set_option maxRecDepth 65536 in
theorem w_t1 : words1.all (fun c => isCode c || c.before args0 about1) = true := by decide +kernel
theorem w_tables : (allAtoms (Jvm.Cond.code x code maxLocals ret :: tables_1)).before args0 about1 = true := by
  rw [allAtoms_all]
  show words1.all (fun c => c.before args0 about1) = true
  refine all_split ?_ w_codes
  rw [w_t1]
set_option maxRecDepth 65536 in
theorem w_case : (Jvm.Cond.and given_1 narrow_1).before args0 about1 = true := by decide +kernel
theorem w_applies : (headSpec (Jvm.Cond.code x code maxLocals ret :: tables_1) room_1).applies x e0.platform about1 = true :=
  (Spec.applies_iff w_frames).mpr ⟨w_running, w_runnable, w_alone, w_named, w_hears, w_ripe, w_room, w_tables⟩
theorem atStart : AtStart classFile x code maxLocals ret World_1 tables_1 room_1 Calls_1 rest_1 Pre_1 launch0 p0 e0 about1 theMethod args0 below0 :=
  ⟨lists_1, trivial, launch0.admits_env _ _ _, launch0.least_env, fairChoices_fair.cas, fairChoices_fair.clock, w_frames, w_args, w_heap, w_applies, trivial, trivial, w_case⟩
end start1
theorem witness_1 : WitnessClaimed_1 := ⟨start1.p0, start1.e0, start1.about1, start1.theMethod, start1.args0, start1.below0, start1.atStart⟩
end Jvm.Pilot.@@N@@
