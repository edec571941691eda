import JvmDerived
import JvmDerived.Pilot.@@N@@Statement
import JvmDerived.Pilot.@@N@@Code
set_option linter.unusedVariables false
set_option linter.unusedSimpArgs false
namespace Jvm.Pilot.@@N@@
open Jvm Jvm.ClassFile Sem Op Lib Jvm.Free Jvm.Stand Jvm.LawKit Jvm.RoadKit Bundle Jvm.Pilot.@@N@@.Jvm.D
def own_Go (p : Program) (e : Env) (below : List Frame) (G : Outcome → State → Prop) (t : State) : Prop :=
  ∃ s₂ o, Steps p.tables e below t s₂ ∧ s₂.status = .running ∧ Ended s₂ below o ∧ G o s₂
def own_G (s : State) (Q : Option Value → Heap → List Loc → Prop) (C S : Nat) (o : Outcome) (U : State) : Prop :=
  ∃ v L, o = .returned v ∧ Q v U.heap L ∧ FrameEnd s o U L C S
def own_Met (l : Launch) (Z : State) (y : MethodName) (bytes : ByteArray) (maxL : Nat) (rt : Option FieldType) (rm : Room) (as : Array Value) (h : Heap) (Q : Option Value → Heap → List Loc → Prop) : Prop :=
  MetFree l y (head1 [Jvm.Cond.code y bytes maxL rt] rm) (fun a U => a = as ∧ Z.Warmed39 U.vm ∧ U.heap = h) (fun _ _ _ _ _ => True) (fun _ U o U' => ∃ v L, o = .returned v ∧ Q v U'.heap L ∧ FrameEnd U o U' L rm.cells rm.slots)
def own_MetL (l : Launch) (Z : State) (as : Array Value) (h : Heap) (Q : Option Value → Heap → List Loc → Prop) : Prop :=
  MetFree l x (head1 (Jvm.Cond.code x code maxLocals ret :: tables_1) room_1) (fun a U => a = as ∧ Z.Warmed39 U.vm ∧ U.heap = h) (fun _ _ _ _ _ => True) (fun _ U o U' => ∃ v L, o = .returned v ∧ Q v U'.heap L ∧ FrameEnd U o U' L room_1.cells room_1.slots)
theorem own_pays {l : Launch} {Z : State} {p : Program} {e : Env} {R : Room} {s : State} {args : Array Value} {below : List Frame} {a0 : Array Value} {h : Heap} {y : MethodName} {bytes : ByteArray} {maxL : Nat} {rt : Option FieldType} {rm : Room} {len W : Nat} {as' : Array Value} {Q : Option Value → Heap → List Loc → Prop}
    (hM : own_Met l Z y bytes maxL rt rm as' h Q) (hZ : Z.Warmed39 s.vm) (wc : (Jvm.Cond.code y bytes maxL rt).before a0 Z = true) (wz : (Jvm.Cond.initialized y.cls).before a0 Z = true) (hf : rm.frames + 1 ≤ R.frames) (hl : W + (maxL + 11) + rm.locals ≤ R.locals) :
    Back l R p e below s args y len W (fun A a => a = as' ∧ A.U.heap = h ∧ A.cells + rm.cells ≤ R.cells ∧ A.slots + rm.slots ≤ R.slots)
      (fun A _ v B => ∃ L, Q v B.U.heap L ∧ B.locs = A.locs ++ L ∧ B.cells = A.cells + rm.cells ∧ B.slots = A.slots + rm.slots) :=
  backOf hM hZ wc wz hf hl
section OwnSteps
variable {p : Program} {l : Launch} {e : Env} {R : Room} {s : State} {m : MethodId} {args : Array Value} {below : List Frame} {meth : Method} {c : Code} {T : State} {locs : List Loc} {cells slots : Nat} {h : Heap} {G : Outcome → State → Prop} {t t' : State} {Q : Option Value → Heap → List Loc → Prop} {C S pc : Nat} {Ls : Array Slot} {rest : List Value}
theorem own_go (k : Steps p.tables e below t t') (r : own_Go p e below G t') : own_Go p e below G t := by
  obtain ⟨s₂, o, h1, h2⟩ := r
  exact ⟨s₂, o, k.trans h1, h2⟩
theorem own_ret (X : Stand p l e R s m args below meth c T locs cells slots) (hx : p.tables.exec = Jvm.exec) (hlk : meth.locks = false) (eT : T.heap = h) {w : Value} {ty : FieldType} {i : Instr} (hret : meth.sig.returnType = some ty) (hn : narrow ty w = w)
    (hi : (i = .ireturn ∧ (ty = .int ∨ ty = .boolean ∨ ty = .byte ∨ ty = .char ∨ ty = .short) ∧ ∃ z, w = .int z) ∨ (i = .lreturn ∧ ty = .long ∧ ∃ z, w = .long z) ∨ (i = .dreturn ∧ ty = .double ∧ ∃ z, w = .double z) ∨ (i = .freturn ∧ ty = .float ∧ ∃ z, w = .float z) ∨ (i = .areturn ∧ ty.isReference = true ∧ w.isRef = true))
    (hd : decode c.code pc = .ok (i, 1)) (hQ : Q (some w) h locs) (hc : cells ≤ C) (hs : slots ≤ S) : own_Go p e below (own_G s Q C S) (T.setTop (mkF m pc Ls (w :: rest))) := by
  obtain ⟨fs, hr, hrun, hended, hW, hsame⟩ := X.leave (v := some w) (fun q => by rw [hret] at q; cases q)
  exact ⟨_, _, retOut X hx hret hn hi hd hr, hrun, hended, _, _, rfl, by show Q _ T.heap _; rw [eT]; exact hQ, ⟨_, rfl⟩, hW, hsame.mono hc hs⟩
theorem own_retI (X : Stand p l e R s m args below meth c T locs cells slots) (hx : p.tables.exec = Jvm.exec) (hlk : meth.locks = false) (eT : T.heap = h) {z : Int32} (hret : meth.sig.returnType = some .int) (hd : decode c.code pc = .ok (.ireturn, 1)) (hQ : Q (some (.int z)) h locs) (hc : cells ≤ C) (hs : slots ≤ S) : own_Go p e below (own_G s Q C S) (T.setTop (mkF m pc Ls (.int z :: rest))) :=
  own_ret X hx hlk eT hret rfl (Or.inl ⟨rfl, Or.inl rfl, z, rfl⟩) hd hQ hc hs
theorem own_retZ (X : Stand p l e R s m args below meth c T locs cells slots) (hx : p.tables.exec = Jvm.exec) (hlk : meth.locks = false) (eT : T.heap = h) {z : Int32} (hret : meth.sig.returnType = some .boolean) (hd : decode c.code pc = .ok (.ireturn, 1)) (hz : z = 0 ∨ z = 1) (hQ : Q (some (.int z)) h locs) (hc : cells ≤ C) (hs : slots ≤ S) : own_Go p e below (own_G s Q C S) (T.setTop (mkF m pc Ls (.int z :: rest))) :=
  own_ret X hx hlk eT hret (by rcases hz with rfl | rfl <;> rfl) (Or.inl ⟨rfl, Or.inr (Or.inl rfl), z, rfl⟩) hd hQ hc hs
theorem own_retJ (X : Stand p l e R s m args below meth c T locs cells slots) (hx : p.tables.exec = Jvm.exec) (hlk : meth.locks = false) (eT : T.heap = h) {z : Int64} (hret : meth.sig.returnType = some .long) (hd : decode c.code pc = .ok (.lreturn, 1)) (hQ : Q (some (.long z)) h locs) (hc : cells ≤ C) (hs : slots ≤ S) : own_Go p e below (own_G s Q C S) (T.setTop (mkF m pc Ls (.long z :: rest))) :=
  own_ret X hx hlk eT hret rfl (Or.inr (Or.inl ⟨rfl, rfl, z, rfl⟩)) hd hQ hc hs
theorem own_retA (X : Stand p l e R s m args below meth c T locs cells slots) (hx : p.tables.exec = Jvm.exec) (hlk : meth.locks = false) (eT : T.heap = h) {a : Addr} {ty : FieldType} (hret : meth.sig.returnType = some ty) (ht : ty.isReference = true) (hd : decode c.code pc = .ok (.areturn, 1)) (hQ : Q (some (.ref a)) h locs) (hc : cells ≤ C) (hs : slots ≤ S) : own_Go p e below (own_G s Q C S) (T.setTop (mkF m pc Ls (.ref a :: rest))) :=
  own_ret X hx hlk eT hret (by cases ty <;> first | rfl | cases ht) (Or.inr (Or.inr (Or.inr (Or.inr ⟨rfl, ht, rfl⟩)))) hd hQ hc hs
theorem own_retV (X : Stand p l e R s m args below meth c T locs cells slots) (hx : p.tables.exec = Jvm.exec) (hlk : meth.locks = false) (eT : T.heap = h) (hret : meth.sig.returnType = none) (hd : decode c.code pc = .ok (.return_, 1)) (hQ : Q none h locs) (hc : cells ≤ C) (hs : slots ≤ S) : own_Go p e below (own_G s Q C S) (T.setTop (mkF m pc Ls [])) := by
  obtain ⟨fs, hr, hrun, hended, hW, hsame⟩ := X.leave (v := none) (fun _ => rfl)
  exact ⟨_, _, X.returnOut hx hret hd hr, hrun, hended, _, _, rfl, by show Q _ T.heap _; rw [eT]; exact hQ, ⟨_, rfl⟩, hW, hsame.mono hc hs⟩
end OwnSteps
def own_b (P : Prop) [Decidable P] : Int32 := if P then 1 else 0
theorem own_b_t {P : Prop} [Decidable P] (h : P) : own_b P = 1 := if_pos h
theorem own_b_f {P : Prop} [Decidable P] (h : ¬ P) : own_b P = 0 := if_neg h
theorem own_b_nz {P : Prop} [Decidable P] (h : P) : ¬ own_b P = 0 := by rw [own_b_t h]; decide
theorem own_b_01 (P : Prop) [Decidable P] : own_b P = 0 ∨ own_b P = 1 := by
  by_cases h : P
  · exact Or.inr (own_b_t h)
  · exact Or.inl (own_b_f h)
theorem own_tltJ {x y : Int64} (h : x < y) : ifCond.holds .lt (lcmpW x y) = true ∧ ifCond.holds .ge (lcmpW x y) = false := by
  have q := tlt (show lcmpW x y < 0 by rw [lcW]; exact (lc_lt x y).mpr h)
  exact ⟨(if0 _ _).trans q.1, (if0 _ _).trans q.2.1⟩
theorem own_fltJ {x y : Int64} (h : ¬ x < y) : ifCond.holds .lt (lcmpW x y) = false ∧ ifCond.holds .ge (lcmpW x y) = true := by
  have q := flt (show ¬ lcmpW x y < 0 by rw [lcW]; exact fun z => h ((lc_lt x y).mp z))
  exact ⟨(if0 _ _).trans q.1, (if0 _ _).trans q.2.1⟩
theorem own_tgtJ {x y : Int64} (h : y < x) : ifCond.holds .gt (lcmpW x y) = true ∧ ifCond.holds .le (lcmpW x y) = false := by
  have q := tlt (show 0 < lcmpW x y by rw [lcW]; exact (lc_gt x y).mpr h)
  exact ⟨(if0 _ _).trans q.2.2.1, (if0 _ _).trans q.2.2.2⟩
theorem own_fgtJ {x y : Int64} (h : ¬ y < x) : ifCond.holds .gt (lcmpW x y) = false ∧ ifCond.holds .le (lcmpW x y) = true := by
  have q := flt (show ¬ 0 < lcmpW x y by rw [lcW]; exact fun z => h ((lc_gt x y).mp z))
  exact ⟨(if0 _ _).trans q.2.2.1, (if0 _ _).trans q.2.2.2⟩
theorem own_teqJ {x y : Int64} (h : x = y) : ifCond.holds .eq (lcmpW x y) = true ∧ ifCond.holds .ne (lcmpW x y) = false := by
  have q := teq (show lcmpW x y = 0 by rw [lcW]; exact (lc_eq x y).mpr h)
  exact ⟨(if0 _ _).trans q.1, (if0 _ _).trans q.2⟩
theorem own_feqJ {x y : Int64} (h : ¬ x = y) : ifCond.holds .eq (lcmpW x y) = false ∧ ifCond.holds .ne (lcmpW x y) = true := by
  have q := feq (show ¬ lcmpW x y = 0 by rw [lcW]; exact fun z => h ((lc_eq x y).mp z))
  exact ⟨(if0 _ _).trans q.1, (if0 _ _).trans q.2⟩
def own_sh (k : Int32) (z : Int64) : Int64 := (z.toUInt64 >>> (k &&& 0x3f).toInt64.toUInt64).toInt64
theorem own_sh_bv (k : Int32) (n : Nat) (z : Int64) (h : ((k &&& 0x3f).toInt64.toUInt64.toBitVec % 64).toNat = n) : (own_sh k z).toBitVec = z.toBitVec >>> n := by
  show (z.toUInt64 >>> (k &&& 0x3f).toInt64.toUInt64).toBitVec = _
  rw [UInt64.toBitVec_shiftRight]
  show z.toBitVec >>> ((k &&& 0x3f).toInt64.toUInt64.toBitVec % 64) = _
  rw [BitVec.ushiftRight_eq', h]
theorem own_unx {w : Nat} (y : BitVec w) (k : Nat) (h : w ≤ 2 * k) : (y ^^^ y >>> k) ^^^ (y ^^^ y >>> k) >>> k = y := by
  rw [BitVec.ushiftRight_xor_distrib, ← BitVec.shiftRight_add]
  have e2 : y >>> (k + k) = BitVec.ofNat w 0 := BitVec.ushiftRight_eq_zero (by omega)
  rw [e2]
  ext i hi
  simp
def own_x (z : Int64) : Int64 := z ^^^ own_sh 33 z
theorem own_xx (z : Int64) : own_x (own_x z) = z := by
  apply Int64.toBitVec_inj.mp
  show (own_x z).toBitVec ^^^ (own_sh 33 (own_x z)).toBitVec = _
  rw [own_sh_bv 33 33 _ (by decide)]
  show (z.toBitVec ^^^ (own_sh 33 z).toBitVec) ^^^ (z.toBitVec ^^^ (own_sh 33 z).toBitVec) >>> 33 = _
  rw [own_sh_bv 33 33 _ (by decide)]
  exact own_unx _ _ (by decide)
def own_nw (c v : Int64) : Int64 := v * ((2 : Int64) - c * v)
def own_inv (c : Int64) : Int64 := own_nw c (own_nw c (own_nw c (own_nw c (own_nw c c))))
def own_fmix (z : Int64) : Int64 := own_x (own_x (own_x z * (-49064778989728563 : Int64)) * (-4265267296055464877 : Int64))
def own_unmix (z : Int64) : Int64 := own_x (own_x (own_x z * own_inv (-4265267296055464877 : Int64)) * own_inv (-49064778989728563 : Int64))
theorem own_law1 (z : Int64) : own_unmix (own_fmix z) = z := by
  unfold own_unmix own_fmix
  rw [own_xx, Int64.mul_assoc, show (-4265267296055464877 : Int64) * own_inv (-4265267296055464877) = 1 by decide, Int64.mul_one]
  rw [own_xx, Int64.mul_assoc, show (-49064778989728563 : Int64) * own_inv (-49064778989728563) = 1 by decide, Int64.mul_one, own_xx]
theorem own_law2 (z : Int64) : own_fmix (own_unmix z) = z := by
  unfold own_unmix own_fmix
  rw [own_xx, Int64.mul_assoc, show own_inv (-49064778989728563) * (-49064778989728563 : Int64) = 1 by decide, Int64.mul_one]
  rw [own_xx, Int64.mul_assoc, show own_inv (-4265267296055464877) * (-4265267296055464877 : Int64) = 1 by decide, Int64.mul_one, own_xx]
theorem own_inverseOdd_0 : decode method_3_code 0 = .ok (.lload_n 0, 1) := by decide +kernel
theorem own_inverseOdd_1 : decode method_3_code 1 = .ok (.lstore_n 2, 1) := by decide +kernel
theorem own_inverseOdd_2 : decode method_3_code 2 = .ok (.lload_n 2, 1) := by decide +kernel
theorem own_inverseOdd_3 : decode method_3_code 3 = .ok (.ldc2_w 18, 3) := by decide +kernel
theorem own_inverseOdd_6 : decode method_3_code 6 = .ok (.lload_n 0, 1) := by decide +kernel
theorem own_inverseOdd_7 : decode method_3_code 7 = .ok (.lload_n 2, 1) := by decide +kernel
theorem own_inverseOdd_8 : decode method_3_code 8 = .ok (.lmul, 1) := by decide +kernel
theorem own_inverseOdd_9 : decode method_3_code 9 = .ok (.lsub, 1) := by decide +kernel
theorem own_inverseOdd_10 : decode method_3_code 10 = .ok (.lmul, 1) := by decide +kernel
theorem own_inverseOdd_11 : decode method_3_code 11 = .ok (.lstore_n 2, 1) := by decide +kernel
theorem own_inverseOdd_12 : decode method_3_code 12 = .ok (.lload_n 2, 1) := by decide +kernel
theorem own_inverseOdd_13 : decode method_3_code 13 = .ok (.ldc2_w 18, 3) := by decide +kernel
theorem own_inverseOdd_16 : decode method_3_code 16 = .ok (.lload_n 0, 1) := by decide +kernel
theorem own_inverseOdd_17 : decode method_3_code 17 = .ok (.lload_n 2, 1) := by decide +kernel
theorem own_inverseOdd_18 : decode method_3_code 18 = .ok (.lmul, 1) := by decide +kernel
theorem own_inverseOdd_19 : decode method_3_code 19 = .ok (.lsub, 1) := by decide +kernel
theorem own_inverseOdd_20 : decode method_3_code 20 = .ok (.lmul, 1) := by decide +kernel
theorem own_inverseOdd_21 : decode method_3_code 21 = .ok (.lstore_n 2, 1) := by decide +kernel
theorem own_inverseOdd_22 : decode method_3_code 22 = .ok (.lload_n 2, 1) := by decide +kernel
theorem own_inverseOdd_23 : decode method_3_code 23 = .ok (.ldc2_w 18, 3) := by decide +kernel
theorem own_inverseOdd_26 : decode method_3_code 26 = .ok (.lload_n 0, 1) := by decide +kernel
theorem own_inverseOdd_27 : decode method_3_code 27 = .ok (.lload_n 2, 1) := by decide +kernel
theorem own_inverseOdd_28 : decode method_3_code 28 = .ok (.lmul, 1) := by decide +kernel
theorem own_inverseOdd_29 : decode method_3_code 29 = .ok (.lsub, 1) := by decide +kernel
theorem own_inverseOdd_30 : decode method_3_code 30 = .ok (.lmul, 1) := by decide +kernel
theorem own_inverseOdd_31 : decode method_3_code 31 = .ok (.lstore_n 2, 1) := by decide +kernel
theorem own_inverseOdd_32 : decode method_3_code 32 = .ok (.lload_n 2, 1) := by decide +kernel
theorem own_inverseOdd_33 : decode method_3_code 33 = .ok (.ldc2_w 18, 3) := by decide +kernel
theorem own_inverseOdd_36 : decode method_3_code 36 = .ok (.lload_n 0, 1) := by decide +kernel
theorem own_inverseOdd_37 : decode method_3_code 37 = .ok (.lload_n 2, 1) := by decide +kernel
theorem own_inverseOdd_38 : decode method_3_code 38 = .ok (.lmul, 1) := by decide +kernel
theorem own_inverseOdd_39 : decode method_3_code 39 = .ok (.lsub, 1) := by decide +kernel
theorem own_inverseOdd_40 : decode method_3_code 40 = .ok (.lmul, 1) := by decide +kernel
theorem own_inverseOdd_41 : decode method_3_code 41 = .ok (.lstore_n 2, 1) := by decide +kernel
theorem own_inverseOdd_42 : decode method_3_code 42 = .ok (.lload_n 2, 1) := by decide +kernel
theorem own_inverseOdd_43 : decode method_3_code 43 = .ok (.ldc2_w 18, 3) := by decide +kernel
theorem own_inverseOdd_46 : decode method_3_code 46 = .ok (.lload_n 0, 1) := by decide +kernel
theorem own_inverseOdd_47 : decode method_3_code 47 = .ok (.lload_n 2, 1) := by decide +kernel
theorem own_inverseOdd_48 : decode method_3_code 48 = .ok (.lmul, 1) := by decide +kernel
theorem own_inverseOdd_49 : decode method_3_code 49 = .ok (.lsub, 1) := by decide +kernel
theorem own_inverseOdd_50 : decode method_3_code 50 = .ok (.lmul, 1) := by decide +kernel
theorem own_inverseOdd_51 : decode method_3_code 51 = .ok (.lstore_n 2, 1) := by decide +kernel
theorem own_inverseOdd_52 : decode method_3_code 52 = .ok (.lload_n 2, 1) := by decide +kernel
theorem own_inverseOdd_53 : decode method_3_code 53 = .ok (.lreturn, 1) := by decide +kernel
theorem own_f1 : plainName "com/example/gate0/gate0/MurmurHash3Fmix64PinLaw" = true := by first | (simp [plainName, overriddenIn]; done) | decide +kernel
theorem own_f2 (m : MethodId) (x0 : Int64) : entryFrame m #[(.long x0)] 4 = mkF m 0 #[.val (.long x0), .second, .unset, .unset] [] := by first | (simp [entryFrame, mkF, argsToLocals, Value.category]; done) | rfl
set_option maxRecDepth 65536 in
set_option maxHeartbeats 40000000 in
theorem rm_inv (l : Launch) (Z : State) (a0 : Array Value) (hw : ∀ d ∈ tables_1, d.before a0 Z = true) (c1 : Int64) (h0 : Heap) (n0 : Nat) (Z0 : n0 ≤ h0.size)  :
    own_Met l Z (⟨"com/example/gate0/gate0/MurmurHash3Fmix64PinLaw", "inverseOdd", "(J)J"⟩ : MethodName) method_3_code 4 (some .long) ({ frames := 0, cells := 0, slots := 0, locals := 0 } : Room) #[(.long c1)] h0 (fun v h L => v = some (.long (own_inv c1)) ∧ L = [] ∧ h = h0) := by
  refine MetFree.of_bodySF (plainFor_of_name own_f1) hisR ?_
  intro p e s m args below meth c s₁ Bd hml0 hP hK
  obtain ⟨rfl, hZ, hh⟩ := hP
  have hx := Bd.exec
  have hby := Bd.bytes
  have hlk : meth.locks = false := Bd.notSynchronized
  have hml : c.maxLocals = 4 := hml0
  have hown : s.vm.findClass "com/example/gate0/gate0/MurmurHash3Fmix64PinLaw" = some m.cls := findClass_of_methodNamed Bd.named
  have hnm := (name_of_methodNamed Bd.named Bd.method).1
  have X0 : Stand p l e ({ frames := 0, cells := 0, slots := 0, locals := 0 } : Room) s m #[(.long c1)] below meth c s₁ [] 0 0 := Stand.of_body Bd
  have e0 : s₁.heap = h0 := by rw [← hh, Bd.state]; rfl
  show own_Go p e below (own_G s (fun v h L => v = some (.long (own_inv c1)) ∧ L = [] ∧ h = h0) 0 0) (s₁.setTop (entryFrame m #[(.long c1)] 4))
  rw [own_f2]
  show own_Go p e below _ (s₁.setTop (mkF m 0 #[.val (.long c1), .second, .unset, .unset] []))
  refine own_go (XS.lloadN X0.here hx rfl (hb hby own_inverseOdd_0) rfl (Steps.refl _)) ?_
  show own_Go p e below _ (s₁.setTop (mkF m 1 #[.val (.long c1), .second, .unset, .unset] [(.long c1)]))
  refine own_go (XS.lstoreN X0.here hx rfl (hb hby own_inverseOdd_1) rfl (l' := #[.val (.long c1), .second, .val (.long c1), .second]) rfl (Steps.refl _)) ?_
  show own_Go p e below _ (s₁.setTop (mkF m 2 #[.val (.long c1), .second, .val (.long c1), .second] []))
  refine own_go (XS.lloadN X0.here hx rfl (hb hby own_inverseOdd_2) rfl (Steps.refl _)) ?_
  show own_Go p e below _ (s₁.setTop (mkF m 3 #[.val (.long c1), .second, .val (.long c1), .second] [(.long c1)]))
  refine own_go (X0.ldc2Long hx hown (mvT hZ (hw _ (List.mem_of_getElem? (i := 14) rfl))) (g := (mkF m 3 #[.val (.long c1), .second, .val (.long c1), .second] [(.long c1)])) rfl (hb hby own_inverseOdd_3) _ (Steps.refl _)) ?_
  show own_Go p e below _ (s₁.setTop (mkF m 6 #[.val (.long c1), .second, .val (.long c1), .second] [(.long (2 : Int64)), (.long c1)]))
  refine own_go (XS.lloadN X0.here hx rfl (hb hby own_inverseOdd_6) rfl (Steps.refl _)) ?_
  show own_Go p e below _ (s₁.setTop (mkF m 7 #[.val (.long c1), .second, .val (.long c1), .second] [(.long c1), (.long (2 : Int64)), (.long c1)]))
  refine own_go (XS.lloadN X0.here hx rfl (hb hby own_inverseOdd_7) rfl (Steps.refl _)) ?_
  show own_Go p e below _ (s₁.setTop (mkF m 8 #[.val (.long c1), .second, .val (.long c1), .second] [(.long c1), (.long c1), (.long (2 : Int64)), (.long c1)]))
  refine own_go (XS.lmul X0.here hx rfl (hb hby own_inverseOdd_8) rfl (Steps.refl _)) ?_
  show own_Go p e below _ (s₁.setTop (mkF m 9 #[.val (.long c1), .second, .val (.long c1), .second] [(.long (c1 * c1)), (.long (2 : Int64)), (.long c1)]))
  refine own_go (XS.lsub X0.here hx rfl (hb hby own_inverseOdd_9) rfl (Steps.refl _)) ?_
  show own_Go p e below _ (s₁.setTop (mkF m 10 #[.val (.long c1), .second, .val (.long c1), .second] [(.long ((2 : Int64) - (c1 * c1))), (.long c1)]))
  refine own_go (XS.lmul X0.here hx rfl (hb hby own_inverseOdd_10) rfl (Steps.refl _)) ?_
  show own_Go p e below _ (s₁.setTop (mkF m 11 #[.val (.long c1), .second, .val (.long c1), .second] [(.long (own_nw c1 c1))]))
  refine own_go (XS.lstoreN X0.here hx rfl (hb hby own_inverseOdd_11) rfl (l' := #[.val (.long c1), .second, .val (.long (own_nw c1 c1)), .second]) rfl (Steps.refl _)) ?_
  show own_Go p e below _ (s₁.setTop (mkF m 12 #[.val (.long c1), .second, .val (.long (own_nw c1 c1)), .second] []))
  refine own_go (XS.lloadN X0.here hx rfl (hb hby own_inverseOdd_12) rfl (Steps.refl _)) ?_
  show own_Go p e below _ (s₁.setTop (mkF m 13 #[.val (.long c1), .second, .val (.long (own_nw c1 c1)), .second] [(.long (own_nw c1 c1))]))
  refine own_go (X0.ldc2Long hx hown (mvT hZ (hw _ (List.mem_of_getElem? (i := 14) rfl))) (g := (mkF m 13 #[.val (.long c1), .second, .val (.long (own_nw c1 c1)), .second] [(.long (own_nw c1 c1))])) rfl (hb hby own_inverseOdd_13) _ (Steps.refl _)) ?_
  show own_Go p e below _ (s₁.setTop (mkF m 16 #[.val (.long c1), .second, .val (.long (own_nw c1 c1)), .second] [(.long (2 : Int64)), (.long (own_nw c1 c1))]))
  refine own_go (XS.lloadN X0.here hx rfl (hb hby own_inverseOdd_16) rfl (Steps.refl _)) ?_
  show own_Go p e below _ (s₁.setTop (mkF m 17 #[.val (.long c1), .second, .val (.long (own_nw c1 c1)), .second] [(.long c1), (.long (2 : Int64)), (.long (own_nw c1 c1))]))
  refine own_go (XS.lloadN X0.here hx rfl (hb hby own_inverseOdd_17) rfl (Steps.refl _)) ?_
  show own_Go p e below _ (s₁.setTop (mkF m 18 #[.val (.long c1), .second, .val (.long (own_nw c1 c1)), .second] [(.long (own_nw c1 c1)), (.long c1), (.long (2 : Int64)), (.long (own_nw c1 c1))]))
  refine own_go (XS.lmul X0.here hx rfl (hb hby own_inverseOdd_18) rfl (Steps.refl _)) ?_
  show own_Go p e below _ (s₁.setTop (mkF m 19 #[.val (.long c1), .second, .val (.long (own_nw c1 c1)), .second] [(.long (c1 * (own_nw c1 c1))), (.long (2 : Int64)), (.long (own_nw c1 c1))]))
  refine own_go (XS.lsub X0.here hx rfl (hb hby own_inverseOdd_19) rfl (Steps.refl _)) ?_
  show own_Go p e below _ (s₁.setTop (mkF m 20 #[.val (.long c1), .second, .val (.long (own_nw c1 c1)), .second] [(.long ((2 : Int64) - (c1 * (own_nw c1 c1)))), (.long (own_nw c1 c1))]))
  refine own_go (XS.lmul X0.here hx rfl (hb hby own_inverseOdd_20) rfl (Steps.refl _)) ?_
  show own_Go p e below _ (s₁.setTop (mkF m 21 #[.val (.long c1), .second, .val (.long (own_nw c1 c1)), .second] [(.long (own_nw c1 (own_nw c1 c1)))]))
  refine own_go (XS.lstoreN X0.here hx rfl (hb hby own_inverseOdd_21) rfl (l' := #[.val (.long c1), .second, .val (.long (own_nw c1 (own_nw c1 c1))), .second]) rfl (Steps.refl _)) ?_
  show own_Go p e below _ (s₁.setTop (mkF m 22 #[.val (.long c1), .second, .val (.long (own_nw c1 (own_nw c1 c1))), .second] []))
  refine own_go (XS.lloadN X0.here hx rfl (hb hby own_inverseOdd_22) rfl (Steps.refl _)) ?_
  show own_Go p e below _ (s₁.setTop (mkF m 23 #[.val (.long c1), .second, .val (.long (own_nw c1 (own_nw c1 c1))), .second] [(.long (own_nw c1 (own_nw c1 c1)))]))
  refine own_go (X0.ldc2Long hx hown (mvT hZ (hw _ (List.mem_of_getElem? (i := 14) rfl))) (g := (mkF m 23 #[.val (.long c1), .second, .val (.long (own_nw c1 (own_nw c1 c1))), .second] [(.long (own_nw c1 (own_nw c1 c1)))])) rfl (hb hby own_inverseOdd_23) _ (Steps.refl _)) ?_
  show own_Go p e below _ (s₁.setTop (mkF m 26 #[.val (.long c1), .second, .val (.long (own_nw c1 (own_nw c1 c1))), .second] [(.long (2 : Int64)), (.long (own_nw c1 (own_nw c1 c1)))]))
  refine own_go (XS.lloadN X0.here hx rfl (hb hby own_inverseOdd_26) rfl (Steps.refl _)) ?_
  show own_Go p e below _ (s₁.setTop (mkF m 27 #[.val (.long c1), .second, .val (.long (own_nw c1 (own_nw c1 c1))), .second] [(.long c1), (.long (2 : Int64)), (.long (own_nw c1 (own_nw c1 c1)))]))
  refine own_go (XS.lloadN X0.here hx rfl (hb hby own_inverseOdd_27) rfl (Steps.refl _)) ?_
  show own_Go p e below _ (s₁.setTop (mkF m 28 #[.val (.long c1), .second, .val (.long (own_nw c1 (own_nw c1 c1))), .second] [(.long (own_nw c1 (own_nw c1 c1))), (.long c1), (.long (2 : Int64)), (.long (own_nw c1 (own_nw c1 c1)))]))
  refine own_go (XS.lmul X0.here hx rfl (hb hby own_inverseOdd_28) rfl (Steps.refl _)) ?_
  show own_Go p e below _ (s₁.setTop (mkF m 29 #[.val (.long c1), .second, .val (.long (own_nw c1 (own_nw c1 c1))), .second] [(.long (c1 * (own_nw c1 (own_nw c1 c1)))), (.long (2 : Int64)), (.long (own_nw c1 (own_nw c1 c1)))]))
  refine own_go (XS.lsub X0.here hx rfl (hb hby own_inverseOdd_29) rfl (Steps.refl _)) ?_
  show own_Go p e below _ (s₁.setTop (mkF m 30 #[.val (.long c1), .second, .val (.long (own_nw c1 (own_nw c1 c1))), .second] [(.long ((2 : Int64) - (c1 * (own_nw c1 (own_nw c1 c1))))), (.long (own_nw c1 (own_nw c1 c1)))]))
  refine own_go (XS.lmul X0.here hx rfl (hb hby own_inverseOdd_30) rfl (Steps.refl _)) ?_
  show own_Go p e below _ (s₁.setTop (mkF m 31 #[.val (.long c1), .second, .val (.long (own_nw c1 (own_nw c1 c1))), .second] [(.long (own_nw c1 (own_nw c1 (own_nw c1 c1))))]))
  refine own_go (XS.lstoreN X0.here hx rfl (hb hby own_inverseOdd_31) rfl (l' := #[.val (.long c1), .second, .val (.long (own_nw c1 (own_nw c1 (own_nw c1 c1)))), .second]) rfl (Steps.refl _)) ?_
  show own_Go p e below _ (s₁.setTop (mkF m 32 #[.val (.long c1), .second, .val (.long (own_nw c1 (own_nw c1 (own_nw c1 c1)))), .second] []))
  refine own_go (XS.lloadN X0.here hx rfl (hb hby own_inverseOdd_32) rfl (Steps.refl _)) ?_
  show own_Go p e below _ (s₁.setTop (mkF m 33 #[.val (.long c1), .second, .val (.long (own_nw c1 (own_nw c1 (own_nw c1 c1)))), .second] [(.long (own_nw c1 (own_nw c1 (own_nw c1 c1))))]))
  refine own_go (X0.ldc2Long hx hown (mvT hZ (hw _ (List.mem_of_getElem? (i := 14) rfl))) (g := (mkF m 33 #[.val (.long c1), .second, .val (.long (own_nw c1 (own_nw c1 (own_nw c1 c1)))), .second] [(.long (own_nw c1 (own_nw c1 (own_nw c1 c1))))])) rfl (hb hby own_inverseOdd_33) _ (Steps.refl _)) ?_
  show own_Go p e below _ (s₁.setTop (mkF m 36 #[.val (.long c1), .second, .val (.long (own_nw c1 (own_nw c1 (own_nw c1 c1)))), .second] [(.long (2 : Int64)), (.long (own_nw c1 (own_nw c1 (own_nw c1 c1))))]))
  refine own_go (XS.lloadN X0.here hx rfl (hb hby own_inverseOdd_36) rfl (Steps.refl _)) ?_
  show own_Go p e below _ (s₁.setTop (mkF m 37 #[.val (.long c1), .second, .val (.long (own_nw c1 (own_nw c1 (own_nw c1 c1)))), .second] [(.long c1), (.long (2 : Int64)), (.long (own_nw c1 (own_nw c1 (own_nw c1 c1))))]))
  refine own_go (XS.lloadN X0.here hx rfl (hb hby own_inverseOdd_37) rfl (Steps.refl _)) ?_
  show own_Go p e below _ (s₁.setTop (mkF m 38 #[.val (.long c1), .second, .val (.long (own_nw c1 (own_nw c1 (own_nw c1 c1)))), .second] [(.long (own_nw c1 (own_nw c1 (own_nw c1 c1)))), (.long c1), (.long (2 : Int64)), (.long (own_nw c1 (own_nw c1 (own_nw c1 c1))))]))
  refine own_go (XS.lmul X0.here hx rfl (hb hby own_inverseOdd_38) rfl (Steps.refl _)) ?_
  show own_Go p e below _ (s₁.setTop (mkF m 39 #[.val (.long c1), .second, .val (.long (own_nw c1 (own_nw c1 (own_nw c1 c1)))), .second] [(.long (c1 * (own_nw c1 (own_nw c1 (own_nw c1 c1))))), (.long (2 : Int64)), (.long (own_nw c1 (own_nw c1 (own_nw c1 c1))))]))
  refine own_go (XS.lsub X0.here hx rfl (hb hby own_inverseOdd_39) rfl (Steps.refl _)) ?_
  show own_Go p e below _ (s₁.setTop (mkF m 40 #[.val (.long c1), .second, .val (.long (own_nw c1 (own_nw c1 (own_nw c1 c1)))), .second] [(.long ((2 : Int64) - (c1 * (own_nw c1 (own_nw c1 (own_nw c1 c1)))))), (.long (own_nw c1 (own_nw c1 (own_nw c1 c1))))]))
  refine own_go (XS.lmul X0.here hx rfl (hb hby own_inverseOdd_40) rfl (Steps.refl _)) ?_
  show own_Go p e below _ (s₁.setTop (mkF m 41 #[.val (.long c1), .second, .val (.long (own_nw c1 (own_nw c1 (own_nw c1 c1)))), .second] [(.long (own_nw c1 (own_nw c1 (own_nw c1 (own_nw c1 c1)))))]))
  refine own_go (XS.lstoreN X0.here hx rfl (hb hby own_inverseOdd_41) rfl (l' := #[.val (.long c1), .second, .val (.long (own_nw c1 (own_nw c1 (own_nw c1 (own_nw c1 c1))))), .second]) rfl (Steps.refl _)) ?_
  show own_Go p e below _ (s₁.setTop (mkF m 42 #[.val (.long c1), .second, .val (.long (own_nw c1 (own_nw c1 (own_nw c1 (own_nw c1 c1))))), .second] []))
  refine own_go (XS.lloadN X0.here hx rfl (hb hby own_inverseOdd_42) rfl (Steps.refl _)) ?_
  show own_Go p e below _ (s₁.setTop (mkF m 43 #[.val (.long c1), .second, .val (.long (own_nw c1 (own_nw c1 (own_nw c1 (own_nw c1 c1))))), .second] [(.long (own_nw c1 (own_nw c1 (own_nw c1 (own_nw c1 c1)))))]))
  refine own_go (X0.ldc2Long hx hown (mvT hZ (hw _ (List.mem_of_getElem? (i := 14) rfl))) (g := (mkF m 43 #[.val (.long c1), .second, .val (.long (own_nw c1 (own_nw c1 (own_nw c1 (own_nw c1 c1))))), .second] [(.long (own_nw c1 (own_nw c1 (own_nw c1 (own_nw c1 c1)))))])) rfl (hb hby own_inverseOdd_43) _ (Steps.refl _)) ?_
  show own_Go p e below _ (s₁.setTop (mkF m 46 #[.val (.long c1), .second, .val (.long (own_nw c1 (own_nw c1 (own_nw c1 (own_nw c1 c1))))), .second] [(.long (2 : Int64)), (.long (own_nw c1 (own_nw c1 (own_nw c1 (own_nw c1 c1)))))]))
  refine own_go (XS.lloadN X0.here hx rfl (hb hby own_inverseOdd_46) rfl (Steps.refl _)) ?_
  show own_Go p e below _ (s₁.setTop (mkF m 47 #[.val (.long c1), .second, .val (.long (own_nw c1 (own_nw c1 (own_nw c1 (own_nw c1 c1))))), .second] [(.long c1), (.long (2 : Int64)), (.long (own_nw c1 (own_nw c1 (own_nw c1 (own_nw c1 c1)))))]))
  refine own_go (XS.lloadN X0.here hx rfl (hb hby own_inverseOdd_47) rfl (Steps.refl _)) ?_
  show own_Go p e below _ (s₁.setTop (mkF m 48 #[.val (.long c1), .second, .val (.long (own_nw c1 (own_nw c1 (own_nw c1 (own_nw c1 c1))))), .second] [(.long (own_nw c1 (own_nw c1 (own_nw c1 (own_nw c1 c1))))), (.long c1), (.long (2 : Int64)), (.long (own_nw c1 (own_nw c1 (own_nw c1 (own_nw c1 c1)))))]))
  refine own_go (XS.lmul X0.here hx rfl (hb hby own_inverseOdd_48) rfl (Steps.refl _)) ?_
  show own_Go p e below _ (s₁.setTop (mkF m 49 #[.val (.long c1), .second, .val (.long (own_nw c1 (own_nw c1 (own_nw c1 (own_nw c1 c1))))), .second] [(.long (c1 * (own_nw c1 (own_nw c1 (own_nw c1 (own_nw c1 c1)))))), (.long (2 : Int64)), (.long (own_nw c1 (own_nw c1 (own_nw c1 (own_nw c1 c1)))))]))
  refine own_go (XS.lsub X0.here hx rfl (hb hby own_inverseOdd_49) rfl (Steps.refl _)) ?_
  show own_Go p e below _ (s₁.setTop (mkF m 50 #[.val (.long c1), .second, .val (.long (own_nw c1 (own_nw c1 (own_nw c1 (own_nw c1 c1))))), .second] [(.long ((2 : Int64) - (c1 * (own_nw c1 (own_nw c1 (own_nw c1 (own_nw c1 c1))))))), (.long (own_nw c1 (own_nw c1 (own_nw c1 (own_nw c1 c1)))))]))
  refine own_go (XS.lmul X0.here hx rfl (hb hby own_inverseOdd_50) rfl (Steps.refl _)) ?_
  show own_Go p e below _ (s₁.setTop (mkF m 51 #[.val (.long c1), .second, .val (.long (own_nw c1 (own_nw c1 (own_nw c1 (own_nw c1 c1))))), .second] [(.long (own_nw c1 (own_nw c1 (own_nw c1 (own_nw c1 (own_nw c1 c1))))))]))
  refine own_go (XS.lstoreN X0.here hx rfl (hb hby own_inverseOdd_51) rfl (l' := #[.val (.long c1), .second, .val (.long (own_nw c1 (own_nw c1 (own_nw c1 (own_nw c1 (own_nw c1 c1)))))), .second]) rfl (Steps.refl _)) ?_
  show own_Go p e below _ (s₁.setTop (mkF m 52 #[.val (.long c1), .second, .val (.long (own_nw c1 (own_nw c1 (own_nw c1 (own_nw c1 (own_nw c1 c1)))))), .second] []))
  refine own_go (XS.lloadN X0.here hx rfl (hb hby own_inverseOdd_52) rfl (Steps.refl _)) ?_
  show own_Go p e below _ (s₁.setTop (mkF m 53 #[.val (.long c1), .second, .val (.long (own_nw c1 (own_nw c1 (own_nw c1 (own_nw c1 (own_nw c1 c1)))))), .second] [(.long (own_nw c1 (own_nw c1 (own_nw c1 (own_nw c1 (own_nw c1 c1))))))]))
  exact own_retJ X0 hx hlk e0 Bd.returns (hb hby own_inverseOdd_53) ⟨rfl, rfl, rfl⟩ (by decide) (by decide)
theorem own_fmix64_0 : decode prog_27_method_3_code 0 = .ok (.lload_n 0, 1) := by decide +kernel
theorem own_fmix64_1 : decode prog_27_method_3_code 1 = .ok (.lstore_n 2, 1) := by decide +kernel
theorem own_fmix64_2 : decode prog_27_method_3_code 2 = .ok (.lload_n 2, 1) := by decide +kernel
theorem own_fmix64_3 : decode prog_27_method_3_code 3 = .ok (.lload_n 2, 1) := by decide +kernel
theorem own_fmix64_4 : decode prog_27_method_3_code 4 = .ok (.bipush 33, 2) := by decide +kernel
theorem own_fmix64_6 : decode prog_27_method_3_code 6 = .ok (.lushr, 1) := by decide +kernel
theorem own_fmix64_7 : decode prog_27_method_3_code 7 = .ok (.lxor, 1) := by decide +kernel
theorem own_fmix64_8 : decode prog_27_method_3_code 8 = .ok (.lstore_n 2, 1) := by decide +kernel
theorem own_fmix64_9 : decode prog_27_method_3_code 9 = .ok (.lload_n 2, 1) := by decide +kernel
theorem own_fmix64_10 : decode prog_27_method_3_code 10 = .ok (.ldc2_w 62, 3) := by decide +kernel
theorem own_fmix64_13 : decode prog_27_method_3_code 13 = .ok (.lmul, 1) := by decide +kernel
theorem own_fmix64_14 : decode prog_27_method_3_code 14 = .ok (.lstore_n 2, 1) := by decide +kernel
theorem own_fmix64_15 : decode prog_27_method_3_code 15 = .ok (.lload_n 2, 1) := by decide +kernel
theorem own_fmix64_16 : decode prog_27_method_3_code 16 = .ok (.lload_n 2, 1) := by decide +kernel
theorem own_fmix64_17 : decode prog_27_method_3_code 17 = .ok (.bipush 33, 2) := by decide +kernel
theorem own_fmix64_19 : decode prog_27_method_3_code 19 = .ok (.lushr, 1) := by decide +kernel
theorem own_fmix64_20 : decode prog_27_method_3_code 20 = .ok (.lxor, 1) := by decide +kernel
theorem own_fmix64_21 : decode prog_27_method_3_code 21 = .ok (.lstore_n 2, 1) := by decide +kernel
theorem own_fmix64_22 : decode prog_27_method_3_code 22 = .ok (.lload_n 2, 1) := by decide +kernel
theorem own_fmix64_23 : decode prog_27_method_3_code 23 = .ok (.ldc2_w 64, 3) := by decide +kernel
theorem own_fmix64_26 : decode prog_27_method_3_code 26 = .ok (.lmul, 1) := by decide +kernel
theorem own_fmix64_27 : decode prog_27_method_3_code 27 = .ok (.lstore_n 2, 1) := by decide +kernel
theorem own_fmix64_28 : decode prog_27_method_3_code 28 = .ok (.lload_n 2, 1) := by decide +kernel
theorem own_fmix64_29 : decode prog_27_method_3_code 29 = .ok (.lload_n 2, 1) := by decide +kernel
theorem own_fmix64_30 : decode prog_27_method_3_code 30 = .ok (.bipush 33, 2) := by decide +kernel
theorem own_fmix64_32 : decode prog_27_method_3_code 32 = .ok (.lushr, 1) := by decide +kernel
theorem own_fmix64_33 : decode prog_27_method_3_code 33 = .ok (.lxor, 1) := by decide +kernel
theorem own_fmix64_34 : decode prog_27_method_3_code 34 = .ok (.lstore_n 2, 1) := by decide +kernel
theorem own_fmix64_35 : decode prog_27_method_3_code 35 = .ok (.lload_n 2, 1) := by decide +kernel
theorem own_fmix64_36 : decode prog_27_method_3_code 36 = .ok (.lreturn, 1) := by decide +kernel
theorem own_f4 : plainName "com/example/gate0/gate0/MurmurHash3" = true := by first | (simp [plainName, overriddenIn]; done) | decide +kernel
set_option maxRecDepth 65536 in
set_option maxHeartbeats 40000000 in
theorem rm_fmix (l : Launch) (Z : State) (a0 : Array Value) (hw : ∀ d ∈ tables_1, d.before a0 Z = true) (q : Int64) (h0 : Heap) (n0 : Nat) (Z0 : n0 ≤ h0.size)  :
    own_Met l Z (⟨"com/example/gate0/gate0/MurmurHash3", "fmix64", "(J)J"⟩ : MethodName) prog_27_method_3_code 4 (some .long) ({ frames := 0, cells := 0, slots := 0, locals := 0 } : Room) #[(.long q)] h0 (fun v h L => v = some (.long (own_fmix q)) ∧ L = [] ∧ h = h0) := by
  refine MetFree.of_bodySF (plainFor_of_name own_f4) hisR ?_
  intro p e s m args below meth c s₁ Bd hml0 hP hK
  obtain ⟨rfl, hZ, hh⟩ := hP
  have hx := Bd.exec
  have hby := Bd.bytes
  have hlk : meth.locks = false := Bd.notSynchronized
  have hml : c.maxLocals = 4 := hml0
  have hown : s.vm.findClass "com/example/gate0/gate0/MurmurHash3" = some m.cls := findClass_of_methodNamed Bd.named
  have hnm := (name_of_methodNamed Bd.named Bd.method).1
  have X0 : Stand p l e ({ frames := 0, cells := 0, slots := 0, locals := 0 } : Room) s m #[(.long q)] below meth c s₁ [] 0 0 := Stand.of_body Bd
  have e0 : s₁.heap = h0 := by rw [← hh, Bd.state]; rfl
  show own_Go p e below (own_G s (fun v h L => v = some (.long (own_fmix q)) ∧ L = [] ∧ h = h0) 0 0) (s₁.setTop (entryFrame m #[(.long q)] 4))
  rw [own_f2]
  show own_Go p e below _ (s₁.setTop (mkF m 0 #[.val (.long q), .second, .unset, .unset] []))
  refine own_go (XS.lloadN X0.here hx rfl (hb hby own_fmix64_0) rfl (Steps.refl _)) ?_
  show own_Go p e below _ (s₁.setTop (mkF m 1 #[.val (.long q), .second, .unset, .unset] [(.long q)]))
  refine own_go (XS.lstoreN X0.here hx rfl (hb hby own_fmix64_1) rfl (l' := #[.val (.long q), .second, .val (.long q), .second]) rfl (Steps.refl _)) ?_
  show own_Go p e below _ (s₁.setTop (mkF m 2 #[.val (.long q), .second, .val (.long q), .second] []))
  refine own_go (XS.lloadN X0.here hx rfl (hb hby own_fmix64_2) rfl (Steps.refl _)) ?_
  show own_Go p e below _ (s₁.setTop (mkF m 3 #[.val (.long q), .second, .val (.long q), .second] [(.long q)]))
  refine own_go (XS.lloadN X0.here hx rfl (hb hby own_fmix64_3) rfl (Steps.refl _)) ?_
  show own_Go p e below _ (s₁.setTop (mkF m 4 #[.val (.long q), .second, .val (.long q), .second] [(.long q), (.long q)]))
  refine own_go (XS.bipush X0.here hx rfl (hb hby own_fmix64_4) (Steps.refl _)) ?_
  show own_Go p e below _ (s₁.setTop (mkF m 6 #[.val (.long q), .second, .val (.long q), .second] [(.int (33 : Int32)), (.long q), (.long q)]))
  refine own_go (XS.lushr X0.here hx rfl (hb hby own_fmix64_6) rfl (Steps.refl _)) ?_
  show own_Go p e below _ (s₁.setTop (mkF m 7 #[.val (.long q), .second, .val (.long q), .second] [(.long (own_sh (33 : Int32) q)), (.long q)]))
  refine own_go (XS.lxor X0.here hx rfl (hb hby own_fmix64_7) rfl (Steps.refl _)) ?_
  show own_Go p e below _ (s₁.setTop (mkF m 8 #[.val (.long q), .second, .val (.long q), .second] [(.long (own_x q))]))
  refine own_go (XS.lstoreN X0.here hx rfl (hb hby own_fmix64_8) rfl (l' := #[.val (.long q), .second, .val (.long (own_x q)), .second]) rfl (Steps.refl _)) ?_
  show own_Go p e below _ (s₁.setTop (mkF m 9 #[.val (.long q), .second, .val (.long (own_x q)), .second] []))
  refine own_go (XS.lloadN X0.here hx rfl (hb hby own_fmix64_9) rfl (Steps.refl _)) ?_
  show own_Go p e below _ (s₁.setTop (mkF m 10 #[.val (.long q), .second, .val (.long (own_x q)), .second] [(.long (own_x q))]))
  refine own_go (X0.ldc2Long hx hown (mvT hZ (hw _ (List.mem_of_getElem? (i := 4) rfl))) (g := (mkF m 10 #[.val (.long q), .second, .val (.long (own_x q)), .second] [(.long (own_x q))])) rfl (hb hby own_fmix64_10) _ (Steps.refl _)) ?_
  show own_Go p e below _ (s₁.setTop (mkF m 13 #[.val (.long q), .second, .val (.long (own_x q)), .second] [(.long (-49064778989728563 : Int64)), (.long (own_x q))]))
  refine own_go (XS.lmul X0.here hx rfl (hb hby own_fmix64_13) rfl (Steps.refl _)) ?_
  show own_Go p e below _ (s₁.setTop (mkF m 14 #[.val (.long q), .second, .val (.long (own_x q)), .second] [(.long ((own_x q) * (-49064778989728563 : Int64)))]))
  refine own_go (XS.lstoreN X0.here hx rfl (hb hby own_fmix64_14) rfl (l' := #[.val (.long q), .second, .val (.long ((own_x q) * (-49064778989728563 : Int64))), .second]) rfl (Steps.refl _)) ?_
  show own_Go p e below _ (s₁.setTop (mkF m 15 #[.val (.long q), .second, .val (.long ((own_x q) * (-49064778989728563 : Int64))), .second] []))
  refine own_go (XS.lloadN X0.here hx rfl (hb hby own_fmix64_15) rfl (Steps.refl _)) ?_
  show own_Go p e below _ (s₁.setTop (mkF m 16 #[.val (.long q), .second, .val (.long ((own_x q) * (-49064778989728563 : Int64))), .second] [(.long ((own_x q) * (-49064778989728563 : Int64)))]))
  refine own_go (XS.lloadN X0.here hx rfl (hb hby own_fmix64_16) rfl (Steps.refl _)) ?_
  show own_Go p e below _ (s₁.setTop (mkF m 17 #[.val (.long q), .second, .val (.long ((own_x q) * (-49064778989728563 : Int64))), .second] [(.long ((own_x q) * (-49064778989728563 : Int64))), (.long ((own_x q) * (-49064778989728563 : Int64)))]))
  refine own_go (XS.bipush X0.here hx rfl (hb hby own_fmix64_17) (Steps.refl _)) ?_
  show own_Go p e below _ (s₁.setTop (mkF m 19 #[.val (.long q), .second, .val (.long ((own_x q) * (-49064778989728563 : Int64))), .second] [(.int (33 : Int32)), (.long ((own_x q) * (-49064778989728563 : Int64))), (.long ((own_x q) * (-49064778989728563 : Int64)))]))
  refine own_go (XS.lushr X0.here hx rfl (hb hby own_fmix64_19) rfl (Steps.refl _)) ?_
  show own_Go p e below _ (s₁.setTop (mkF m 20 #[.val (.long q), .second, .val (.long ((own_x q) * (-49064778989728563 : Int64))), .second] [(.long (own_sh (33 : Int32) ((own_x q) * (-49064778989728563 : Int64)))), (.long ((own_x q) * (-49064778989728563 : Int64)))]))
  refine own_go (XS.lxor X0.here hx rfl (hb hby own_fmix64_20) rfl (Steps.refl _)) ?_
  show own_Go p e below _ (s₁.setTop (mkF m 21 #[.val (.long q), .second, .val (.long ((own_x q) * (-49064778989728563 : Int64))), .second] [(.long (own_x ((own_x q) * (-49064778989728563 : Int64))))]))
  refine own_go (XS.lstoreN X0.here hx rfl (hb hby own_fmix64_21) rfl (l' := #[.val (.long q), .second, .val (.long (own_x ((own_x q) * (-49064778989728563 : Int64)))), .second]) rfl (Steps.refl _)) ?_
  show own_Go p e below _ (s₁.setTop (mkF m 22 #[.val (.long q), .second, .val (.long (own_x ((own_x q) * (-49064778989728563 : Int64)))), .second] []))
  refine own_go (XS.lloadN X0.here hx rfl (hb hby own_fmix64_22) rfl (Steps.refl _)) ?_
  show own_Go p e below _ (s₁.setTop (mkF m 23 #[.val (.long q), .second, .val (.long (own_x ((own_x q) * (-49064778989728563 : Int64)))), .second] [(.long (own_x ((own_x q) * (-49064778989728563 : Int64))))]))
  refine own_go (X0.ldc2Long hx hown (mvT hZ (hw _ (List.mem_of_getElem? (i := 5) rfl))) (g := (mkF m 23 #[.val (.long q), .second, .val (.long (own_x ((own_x q) * (-49064778989728563 : Int64)))), .second] [(.long (own_x ((own_x q) * (-49064778989728563 : Int64))))])) rfl (hb hby own_fmix64_23) _ (Steps.refl _)) ?_
  show own_Go p e below _ (s₁.setTop (mkF m 26 #[.val (.long q), .second, .val (.long (own_x ((own_x q) * (-49064778989728563 : Int64)))), .second] [(.long (-4265267296055464877 : Int64)), (.long (own_x ((own_x q) * (-49064778989728563 : Int64))))]))
  refine own_go (XS.lmul X0.here hx rfl (hb hby own_fmix64_26) rfl (Steps.refl _)) ?_
  show own_Go p e below _ (s₁.setTop (mkF m 27 #[.val (.long q), .second, .val (.long (own_x ((own_x q) * (-49064778989728563 : Int64)))), .second] [(.long ((own_x ((own_x q) * (-49064778989728563 : Int64))) * (-4265267296055464877 : Int64)))]))
  refine own_go (XS.lstoreN X0.here hx rfl (hb hby own_fmix64_27) rfl (l' := #[.val (.long q), .second, .val (.long ((own_x ((own_x q) * (-49064778989728563 : Int64))) * (-4265267296055464877 : Int64))), .second]) rfl (Steps.refl _)) ?_
  show own_Go p e below _ (s₁.setTop (mkF m 28 #[.val (.long q), .second, .val (.long ((own_x ((own_x q) * (-49064778989728563 : Int64))) * (-4265267296055464877 : Int64))), .second] []))
  refine own_go (XS.lloadN X0.here hx rfl (hb hby own_fmix64_28) rfl (Steps.refl _)) ?_
  show own_Go p e below _ (s₁.setTop (mkF m 29 #[.val (.long q), .second, .val (.long ((own_x ((own_x q) * (-49064778989728563 : Int64))) * (-4265267296055464877 : Int64))), .second] [(.long ((own_x ((own_x q) * (-49064778989728563 : Int64))) * (-4265267296055464877 : Int64)))]))
  refine own_go (XS.lloadN X0.here hx rfl (hb hby own_fmix64_29) rfl (Steps.refl _)) ?_
  show own_Go p e below _ (s₁.setTop (mkF m 30 #[.val (.long q), .second, .val (.long ((own_x ((own_x q) * (-49064778989728563 : Int64))) * (-4265267296055464877 : Int64))), .second] [(.long ((own_x ((own_x q) * (-49064778989728563 : Int64))) * (-4265267296055464877 : Int64))), (.long ((own_x ((own_x q) * (-49064778989728563 : Int64))) * (-4265267296055464877 : Int64)))]))
  refine own_go (XS.bipush X0.here hx rfl (hb hby own_fmix64_30) (Steps.refl _)) ?_
  show own_Go p e below _ (s₁.setTop (mkF m 32 #[.val (.long q), .second, .val (.long ((own_x ((own_x q) * (-49064778989728563 : Int64))) * (-4265267296055464877 : Int64))), .second] [(.int (33 : Int32)), (.long ((own_x ((own_x q) * (-49064778989728563 : Int64))) * (-4265267296055464877 : Int64))), (.long ((own_x ((own_x q) * (-49064778989728563 : Int64))) * (-4265267296055464877 : Int64)))]))
  refine own_go (XS.lushr X0.here hx rfl (hb hby own_fmix64_32) rfl (Steps.refl _)) ?_
  show own_Go p e below _ (s₁.setTop (mkF m 33 #[.val (.long q), .second, .val (.long ((own_x ((own_x q) * (-49064778989728563 : Int64))) * (-4265267296055464877 : Int64))), .second] [(.long (own_sh (33 : Int32) ((own_x ((own_x q) * (-49064778989728563 : Int64))) * (-4265267296055464877 : Int64)))), (.long ((own_x ((own_x q) * (-49064778989728563 : Int64))) * (-4265267296055464877 : Int64)))]))
  refine own_go (XS.lxor X0.here hx rfl (hb hby own_fmix64_33) rfl (Steps.refl _)) ?_
  show own_Go p e below _ (s₁.setTop (mkF m 34 #[.val (.long q), .second, .val (.long ((own_x ((own_x q) * (-49064778989728563 : Int64))) * (-4265267296055464877 : Int64))), .second] [(.long (own_x ((own_x ((own_x q) * (-49064778989728563 : Int64))) * (-4265267296055464877 : Int64))))]))
  refine own_go (XS.lstoreN X0.here hx rfl (hb hby own_fmix64_34) rfl (l' := #[.val (.long q), .second, .val (.long (own_x ((own_x ((own_x q) * (-49064778989728563 : Int64))) * (-4265267296055464877 : Int64)))), .second]) rfl (Steps.refl _)) ?_
  show own_Go p e below _ (s₁.setTop (mkF m 35 #[.val (.long q), .second, .val (.long (own_x ((own_x ((own_x q) * (-49064778989728563 : Int64))) * (-4265267296055464877 : Int64)))), .second] []))
  refine own_go (XS.lloadN X0.here hx rfl (hb hby own_fmix64_35) rfl (Steps.refl _)) ?_
  show own_Go p e below _ (s₁.setTop (mkF m 36 #[.val (.long q), .second, .val (.long (own_x ((own_x ((own_x q) * (-49064778989728563 : Int64))) * (-4265267296055464877 : Int64)))), .second] [(.long (own_x ((own_x ((own_x q) * (-49064778989728563 : Int64))) * (-4265267296055464877 : Int64))))]))
  exact own_retJ X0 hx hlk e0 Bd.returns (hb hby own_fmix64_36) ⟨rfl, rfl, rfl⟩ (by decide) (by decide)
theorem own_unmix_0 : decode method_4_code 0 = .ok (.lload_n 0, 1) := by decide +kernel
theorem own_unmix_1 : decode method_4_code 1 = .ok (.lstore_n 2, 1) := by decide +kernel
theorem own_unmix_2 : decode method_4_code 2 = .ok (.lload_n 2, 1) := by decide +kernel
theorem own_unmix_3 : decode method_4_code 3 = .ok (.lload_n 2, 1) := by decide +kernel
theorem own_unmix_4 : decode method_4_code 4 = .ok (.bipush 33, 2) := by decide +kernel
theorem own_unmix_6 : decode method_4_code 6 = .ok (.lushr, 1) := by decide +kernel
theorem own_unmix_7 : decode method_4_code 7 = .ok (.lxor, 1) := by decide +kernel
theorem own_unmix_8 : decode method_4_code 8 = .ok (.lstore_n 2, 1) := by decide +kernel
theorem own_unmix_9 : decode method_4_code 9 = .ok (.lload_n 2, 1) := by decide +kernel
theorem own_unmix_10 : decode method_4_code 10 = .ok (.ldc2_w 20, 3) := by decide +kernel
theorem own_unmix_13 : decode method_4_code 13 = .ok (.invokestatic 22, 3) := by decide +kernel
theorem own_unmix_16 : decode method_4_code 16 = .ok (.lmul, 1) := by decide +kernel
theorem own_unmix_17 : decode method_4_code 17 = .ok (.lstore_n 2, 1) := by decide +kernel
theorem own_unmix_18 : decode method_4_code 18 = .ok (.lload_n 2, 1) := by decide +kernel
theorem own_unmix_19 : decode method_4_code 19 = .ok (.lload_n 2, 1) := by decide +kernel
theorem own_unmix_20 : decode method_4_code 20 = .ok (.bipush 33, 2) := by decide +kernel
theorem own_unmix_22 : decode method_4_code 22 = .ok (.lushr, 1) := by decide +kernel
theorem own_unmix_23 : decode method_4_code 23 = .ok (.lxor, 1) := by decide +kernel
theorem own_unmix_24 : decode method_4_code 24 = .ok (.lstore_n 2, 1) := by decide +kernel
theorem own_unmix_25 : decode method_4_code 25 = .ok (.lload_n 2, 1) := by decide +kernel
theorem own_unmix_26 : decode method_4_code 26 = .ok (.ldc2_w 25, 3) := by decide +kernel
theorem own_unmix_29 : decode method_4_code 29 = .ok (.invokestatic 22, 3) := by decide +kernel
theorem own_unmix_32 : decode method_4_code 32 = .ok (.lmul, 1) := by decide +kernel
theorem own_unmix_33 : decode method_4_code 33 = .ok (.lstore_n 2, 1) := by decide +kernel
theorem own_unmix_34 : decode method_4_code 34 = .ok (.lload_n 2, 1) := by decide +kernel
theorem own_unmix_35 : decode method_4_code 35 = .ok (.lload_n 2, 1) := by decide +kernel
theorem own_unmix_36 : decode method_4_code 36 = .ok (.bipush 33, 2) := by decide +kernel
theorem own_unmix_38 : decode method_4_code 38 = .ok (.lushr, 1) := by decide +kernel
theorem own_unmix_39 : decode method_4_code 39 = .ok (.lxor, 1) := by decide +kernel
theorem own_unmix_40 : decode method_4_code 40 = .ok (.lstore_n 2, 1) := by decide +kernel
theorem own_unmix_41 : decode method_4_code 41 = .ok (.lload_n 2, 1) := by decide +kernel
theorem own_unmix_42 : decode method_4_code 42 = .ok (.lreturn, 1) := by decide +kernel
theorem own_f6 : parseMethodDescriptor "(J)J" = some ⟨[.long], some .long⟩ := by decide +kernel
set_option maxRecDepth 65536 in
set_option maxHeartbeats 40000000 in
theorem rm_unmix (l : Launch) (Z : State) (a0 : Array Value) (hw : ∀ d ∈ tables_1, d.before a0 Z = true) (q : Int64) (h0 : Heap) (n0 : Nat) (Z0 : n0 ≤ h0.size)  :
    own_Met l Z (⟨"com/example/gate0/gate0/MurmurHash3Fmix64PinLaw", "unmix", "(J)J"⟩ : MethodName) method_4_code 4 (some .long) ({ frames := 1, cells := 0, slots := 0, locals := 17 } : Room) #[(.long q)] h0 (fun v h L => v = some (.long (own_unmix q)) ∧ L = [] ∧ h = h0) := by
  refine MetFree.of_bodySF (plainFor_of_name own_f1) hisR ?_
  intro p e s m args below meth c s₁ Bd hml0 hP hK
  obtain ⟨rfl, hZ, hh⟩ := hP
  have hx := Bd.exec
  have hby := Bd.bytes
  have hlk : meth.locks = false := Bd.notSynchronized
  have hml : c.maxLocals = 4 := hml0
  have hown : s.vm.findClass "com/example/gate0/gate0/MurmurHash3Fmix64PinLaw" = some m.cls := findClass_of_methodNamed Bd.named
  have hnm := (name_of_methodNamed Bd.named Bd.method).1
  have X0 : Stand p l e ({ frames := 1, cells := 0, slots := 0, locals := 17 } : Room) s m #[(.long q)] below meth c s₁ [] 0 0 := Stand.of_body Bd
  have e0 : s₁.heap = h0 := by rw [← hh, Bd.state]; rfl
  show own_Go p e below (own_G s (fun v h L => v = some (.long (own_unmix q)) ∧ L = [] ∧ h = h0) 0 0) (s₁.setTop (entryFrame m #[(.long q)] 4))
  rw [own_f2]
  show own_Go p e below _ (s₁.setTop (mkF m 0 #[.val (.long q), .second, .unset, .unset] []))
  refine own_go (XS.lloadN X0.here hx rfl (hb hby own_unmix_0) rfl (Steps.refl _)) ?_
  show own_Go p e below _ (s₁.setTop (mkF m 1 #[.val (.long q), .second, .unset, .unset] [(.long q)]))
  refine own_go (XS.lstoreN X0.here hx rfl (hb hby own_unmix_1) rfl (l' := #[.val (.long q), .second, .val (.long q), .second]) rfl (Steps.refl _)) ?_
  show own_Go p e below _ (s₁.setTop (mkF m 2 #[.val (.long q), .second, .val (.long q), .second] []))
  refine own_go (XS.lloadN X0.here hx rfl (hb hby own_unmix_2) rfl (Steps.refl _)) ?_
  show own_Go p e below _ (s₁.setTop (mkF m 3 #[.val (.long q), .second, .val (.long q), .second] [(.long q)]))
  refine own_go (XS.lloadN X0.here hx rfl (hb hby own_unmix_3) rfl (Steps.refl _)) ?_
  show own_Go p e below _ (s₁.setTop (mkF m 4 #[.val (.long q), .second, .val (.long q), .second] [(.long q), (.long q)]))
  refine own_go (XS.bipush X0.here hx rfl (hb hby own_unmix_4) (Steps.refl _)) ?_
  show own_Go p e below _ (s₁.setTop (mkF m 6 #[.val (.long q), .second, .val (.long q), .second] [(.int (33 : Int32)), (.long q), (.long q)]))
  refine own_go (XS.lushr X0.here hx rfl (hb hby own_unmix_6) rfl (Steps.refl _)) ?_
  show own_Go p e below _ (s₁.setTop (mkF m 7 #[.val (.long q), .second, .val (.long q), .second] [(.long (own_sh (33 : Int32) q)), (.long q)]))
  refine own_go (XS.lxor X0.here hx rfl (hb hby own_unmix_7) rfl (Steps.refl _)) ?_
  show own_Go p e below _ (s₁.setTop (mkF m 8 #[.val (.long q), .second, .val (.long q), .second] [(.long (own_x q))]))
  refine own_go (XS.lstoreN X0.here hx rfl (hb hby own_unmix_8) rfl (l' := #[.val (.long q), .second, .val (.long (own_x q)), .second]) rfl (Steps.refl _)) ?_
  show own_Go p e below _ (s₁.setTop (mkF m 9 #[.val (.long q), .second, .val (.long (own_x q)), .second] []))
  refine own_go (XS.lloadN X0.here hx rfl (hb hby own_unmix_9) rfl (Steps.refl _)) ?_
  show own_Go p e below _ (s₁.setTop (mkF m 10 #[.val (.long q), .second, .val (.long (own_x q)), .second] [(.long (own_x q))]))
  refine own_go (X0.ldc2Long hx hown (mvT hZ (hw _ (List.mem_of_getElem? (i := 10) rfl))) (g := (mkF m 10 #[.val (.long q), .second, .val (.long (own_x q)), .second] [(.long (own_x q))])) rfl (hb hby own_unmix_10) _ (Steps.refl _)) ?_
  show own_Go p e below _ (s₁.setTop (mkF m 13 #[.val (.long q), .second, .val (.long (own_x q)), .second] [(.long (-4265267296055464877 : Int64)), (.long (own_x q))]))
  obtain ⟨_, _, ⟨T1, L1, k1, n1⟩, -, X1, ⟨Lc1, hQ1, l1, y1, z1⟩, st1⟩ := Jvm.LawKit.callS X0 hx (y := (⟨"com/example/gate0/gate0/MurmurHash3Fmix64PinLaw", "inverseOdd", "(J)J"⟩ : MethodName)) hown (mvT hZ (hw _ (List.mem_of_getElem? (i := 11) rfl))) (mvT hZ (hw _ (List.mem_of_getElem? (i := 12) rfl))) (mvT hZ (hw _ (List.mem_of_getElem? (i := 8) rfl))) (mvT hZ (hw _ (List.mem_of_getElem? (i := 13) rfl))) (by decide) (own_pays (W := 2) (rm_inv l Z a0 hw (-4265267296055464877 : Int64) h0 n0 Z0) hZ (hw _ (List.mem_of_getElem? (i := 13) rfl)) (hw _ (List.mem_of_getElem? (i := 8) rfl)) (by decide) (by decide)) (g := (mkF m 13 #[.val (.long q), .second, .val (.long (own_x q)), .second] [(.long (-4265267296055464877 : Int64)), (.long (own_x q))])) rfl (by rw [hml]; rfl) (argsL := [(.long (-4265267296055464877 : Int64))]) (rest := [(.long (own_x q))]) (lenOf own_f6 rfl) rfl (by show 2 * 0 + _ ≤ _; exact Nat.le_of_eq rfl) (hb hby own_unmix_13) (fun _ _ => ⟨rfl, e0, (by decide : 0 + 0 ≤ _), (by decide : 0 + 0 ≤ _)⟩)
  dsimp only [Pt.U, Pt.locs, Pt.cells, Pt.slots] at X1 l1 y1 z1 st1 hQ1
  subst l1 y1 z1
  obtain ⟨rfl, rfl, e1⟩ := hQ1
  try rw [List.append_nil] at X1
  refine own_go (st1 _ (Steps.refl _)) ?_
  show own_Go p e below _ (T1.setTop (mkF m 16 #[.val (.long q), .second, .val (.long (own_x q)), .second] [(.long (own_inv (-4265267296055464877 : Int64))), (.long (own_x q))]))
  refine own_go (XS.lmul X1.here hx rfl (hb hby own_unmix_16) rfl (Steps.refl _)) ?_
  show own_Go p e below _ (T1.setTop (mkF m 17 #[.val (.long q), .second, .val (.long (own_x q)), .second] [(.long ((own_x q) * (own_inv (-4265267296055464877 : Int64))))]))
  refine own_go (XS.lstoreN X1.here hx rfl (hb hby own_unmix_17) rfl (l' := #[.val (.long q), .second, .val (.long ((own_x q) * (own_inv (-4265267296055464877 : Int64)))), .second]) rfl (Steps.refl _)) ?_
  show own_Go p e below _ (T1.setTop (mkF m 18 #[.val (.long q), .second, .val (.long ((own_x q) * (own_inv (-4265267296055464877 : Int64)))), .second] []))
  refine own_go (XS.lloadN X1.here hx rfl (hb hby own_unmix_18) rfl (Steps.refl _)) ?_
  show own_Go p e below _ (T1.setTop (mkF m 19 #[.val (.long q), .second, .val (.long ((own_x q) * (own_inv (-4265267296055464877 : Int64)))), .second] [(.long ((own_x q) * (own_inv (-4265267296055464877 : Int64))))]))
  refine own_go (XS.lloadN X1.here hx rfl (hb hby own_unmix_19) rfl (Steps.refl _)) ?_
  show own_Go p e below _ (T1.setTop (mkF m 20 #[.val (.long q), .second, .val (.long ((own_x q) * (own_inv (-4265267296055464877 : Int64)))), .second] [(.long ((own_x q) * (own_inv (-4265267296055464877 : Int64)))), (.long ((own_x q) * (own_inv (-4265267296055464877 : Int64))))]))
  refine own_go (XS.bipush X1.here hx rfl (hb hby own_unmix_20) (Steps.refl _)) ?_
  show own_Go p e below _ (T1.setTop (mkF m 22 #[.val (.long q), .second, .val (.long ((own_x q) * (own_inv (-4265267296055464877 : Int64)))), .second] [(.int (33 : Int32)), (.long ((own_x q) * (own_inv (-4265267296055464877 : Int64)))), (.long ((own_x q) * (own_inv (-4265267296055464877 : Int64))))]))
  refine own_go (XS.lushr X1.here hx rfl (hb hby own_unmix_22) rfl (Steps.refl _)) ?_
  show own_Go p e below _ (T1.setTop (mkF m 23 #[.val (.long q), .second, .val (.long ((own_x q) * (own_inv (-4265267296055464877 : Int64)))), .second] [(.long (own_sh (33 : Int32) ((own_x q) * (own_inv (-4265267296055464877 : Int64))))), (.long ((own_x q) * (own_inv (-4265267296055464877 : Int64))))]))
  refine own_go (XS.lxor X1.here hx rfl (hb hby own_unmix_23) rfl (Steps.refl _)) ?_
  show own_Go p e below _ (T1.setTop (mkF m 24 #[.val (.long q), .second, .val (.long ((own_x q) * (own_inv (-4265267296055464877 : Int64)))), .second] [(.long (own_x ((own_x q) * (own_inv (-4265267296055464877 : Int64)))))]))
  refine own_go (XS.lstoreN X1.here hx rfl (hb hby own_unmix_24) rfl (l' := #[.val (.long q), .second, .val (.long (own_x ((own_x q) * (own_inv (-4265267296055464877 : Int64))))), .second]) rfl (Steps.refl _)) ?_
  show own_Go p e below _ (T1.setTop (mkF m 25 #[.val (.long q), .second, .val (.long (own_x ((own_x q) * (own_inv (-4265267296055464877 : Int64))))), .second] []))
  refine own_go (XS.lloadN X1.here hx rfl (hb hby own_unmix_25) rfl (Steps.refl _)) ?_
  show own_Go p e below _ (T1.setTop (mkF m 26 #[.val (.long q), .second, .val (.long (own_x ((own_x q) * (own_inv (-4265267296055464877 : Int64))))), .second] [(.long (own_x ((own_x q) * (own_inv (-4265267296055464877 : Int64)))))]))
  refine own_go (X1.ldc2Long hx hown (mvT hZ (hw _ (List.mem_of_getElem? (i := 15) rfl))) (g := (mkF m 26 #[.val (.long q), .second, .val (.long (own_x ((own_x q) * (own_inv (-4265267296055464877 : Int64))))), .second] [(.long (own_x ((own_x q) * (own_inv (-4265267296055464877 : Int64)))))])) rfl (hb hby own_unmix_26) _ (Steps.refl _)) ?_
  show own_Go p e below _ (T1.setTop (mkF m 29 #[.val (.long q), .second, .val (.long (own_x ((own_x q) * (own_inv (-4265267296055464877 : Int64))))), .second] [(.long (-49064778989728563 : Int64)), (.long (own_x ((own_x q) * (own_inv (-4265267296055464877 : Int64)))))]))
  obtain ⟨_, _, ⟨T2, L2, k2, n2⟩, -, X2, ⟨Lc2, hQ2, l2, y2, z2⟩, st2⟩ := Jvm.LawKit.callS X1 hx (y := (⟨"com/example/gate0/gate0/MurmurHash3Fmix64PinLaw", "inverseOdd", "(J)J"⟩ : MethodName)) hown (mvT hZ (hw _ (List.mem_of_getElem? (i := 11) rfl))) (mvT hZ (hw _ (List.mem_of_getElem? (i := 12) rfl))) (mvT hZ (hw _ (List.mem_of_getElem? (i := 8) rfl))) (mvT hZ (hw _ (List.mem_of_getElem? (i := 13) rfl))) (by decide) (own_pays (W := 2) (rm_inv l Z a0 hw (-49064778989728563 : Int64) h0 n0 Z0) hZ (hw _ (List.mem_of_getElem? (i := 13) rfl)) (hw _ (List.mem_of_getElem? (i := 8) rfl)) (by decide) (by decide)) (g := (mkF m 29 #[.val (.long q), .second, .val (.long (own_x ((own_x q) * (own_inv (-4265267296055464877 : Int64))))), .second] [(.long (-49064778989728563 : Int64)), (.long (own_x ((own_x q) * (own_inv (-4265267296055464877 : Int64)))))])) rfl (by rw [hml]; rfl) (argsL := [(.long (-49064778989728563 : Int64))]) (rest := [(.long (own_x ((own_x q) * (own_inv (-4265267296055464877 : Int64)))))]) (lenOf own_f6 rfl) rfl (by show 2 * 0 + _ ≤ _; exact Nat.le_of_eq rfl) (hb hby own_unmix_29) (fun _ _ => ⟨rfl, e1, (by decide : 0 + 0 ≤ _), (by decide : 0 + 0 ≤ _)⟩)
  dsimp only [Pt.U, Pt.locs, Pt.cells, Pt.slots] at X2 l2 y2 z2 st2 hQ2
  subst l2 y2 z2
  obtain ⟨rfl, rfl, e2⟩ := hQ2
  try rw [List.append_nil] at X2
  refine own_go (st2 _ (Steps.refl _)) ?_
  show own_Go p e below _ (T2.setTop (mkF m 32 #[.val (.long q), .second, .val (.long (own_x ((own_x q) * (own_inv (-4265267296055464877 : Int64))))), .second] [(.long (own_inv (-49064778989728563 : Int64))), (.long (own_x ((own_x q) * (own_inv (-4265267296055464877 : Int64)))))]))
  refine own_go (XS.lmul X2.here hx rfl (hb hby own_unmix_32) rfl (Steps.refl _)) ?_
  show own_Go p e below _ (T2.setTop (mkF m 33 #[.val (.long q), .second, .val (.long (own_x ((own_x q) * (own_inv (-4265267296055464877 : Int64))))), .second] [(.long ((own_x ((own_x q) * (own_inv (-4265267296055464877 : Int64)))) * (own_inv (-49064778989728563 : Int64))))]))
  refine own_go (XS.lstoreN X2.here hx rfl (hb hby own_unmix_33) rfl (l' := #[.val (.long q), .second, .val (.long ((own_x ((own_x q) * (own_inv (-4265267296055464877 : Int64)))) * (own_inv (-49064778989728563 : Int64)))), .second]) rfl (Steps.refl _)) ?_
  show own_Go p e below _ (T2.setTop (mkF m 34 #[.val (.long q), .second, .val (.long ((own_x ((own_x q) * (own_inv (-4265267296055464877 : Int64)))) * (own_inv (-49064778989728563 : Int64)))), .second] []))
  refine own_go (XS.lloadN X2.here hx rfl (hb hby own_unmix_34) rfl (Steps.refl _)) ?_
  show own_Go p e below _ (T2.setTop (mkF m 35 #[.val (.long q), .second, .val (.long ((own_x ((own_x q) * (own_inv (-4265267296055464877 : Int64)))) * (own_inv (-49064778989728563 : Int64)))), .second] [(.long ((own_x ((own_x q) * (own_inv (-4265267296055464877 : Int64)))) * (own_inv (-49064778989728563 : Int64))))]))
  refine own_go (XS.lloadN X2.here hx rfl (hb hby own_unmix_35) rfl (Steps.refl _)) ?_
  show own_Go p e below _ (T2.setTop (mkF m 36 #[.val (.long q), .second, .val (.long ((own_x ((own_x q) * (own_inv (-4265267296055464877 : Int64)))) * (own_inv (-49064778989728563 : Int64)))), .second] [(.long ((own_x ((own_x q) * (own_inv (-4265267296055464877 : Int64)))) * (own_inv (-49064778989728563 : Int64)))), (.long ((own_x ((own_x q) * (own_inv (-4265267296055464877 : Int64)))) * (own_inv (-49064778989728563 : Int64))))]))
  refine own_go (XS.bipush X2.here hx rfl (hb hby own_unmix_36) (Steps.refl _)) ?_
  show own_Go p e below _ (T2.setTop (mkF m 38 #[.val (.long q), .second, .val (.long ((own_x ((own_x q) * (own_inv (-4265267296055464877 : Int64)))) * (own_inv (-49064778989728563 : Int64)))), .second] [(.int (33 : Int32)), (.long ((own_x ((own_x q) * (own_inv (-4265267296055464877 : Int64)))) * (own_inv (-49064778989728563 : Int64)))), (.long ((own_x ((own_x q) * (own_inv (-4265267296055464877 : Int64)))) * (own_inv (-49064778989728563 : Int64))))]))
  refine own_go (XS.lushr X2.here hx rfl (hb hby own_unmix_38) rfl (Steps.refl _)) ?_
  show own_Go p e below _ (T2.setTop (mkF m 39 #[.val (.long q), .second, .val (.long ((own_x ((own_x q) * (own_inv (-4265267296055464877 : Int64)))) * (own_inv (-49064778989728563 : Int64)))), .second] [(.long (own_sh (33 : Int32) ((own_x ((own_x q) * (own_inv (-4265267296055464877 : Int64)))) * (own_inv (-49064778989728563 : Int64))))), (.long ((own_x ((own_x q) * (own_inv (-4265267296055464877 : Int64)))) * (own_inv (-49064778989728563 : Int64))))]))
  refine own_go (XS.lxor X2.here hx rfl (hb hby own_unmix_39) rfl (Steps.refl _)) ?_
  show own_Go p e below _ (T2.setTop (mkF m 40 #[.val (.long q), .second, .val (.long ((own_x ((own_x q) * (own_inv (-4265267296055464877 : Int64)))) * (own_inv (-49064778989728563 : Int64)))), .second] [(.long (own_x ((own_x ((own_x q) * (own_inv (-4265267296055464877 : Int64)))) * (own_inv (-49064778989728563 : Int64)))))]))
  refine own_go (XS.lstoreN X2.here hx rfl (hb hby own_unmix_40) rfl (l' := #[.val (.long q), .second, .val (.long (own_x ((own_x ((own_x q) * (own_inv (-4265267296055464877 : Int64)))) * (own_inv (-49064778989728563 : Int64))))), .second]) rfl (Steps.refl _)) ?_
  show own_Go p e below _ (T2.setTop (mkF m 41 #[.val (.long q), .second, .val (.long (own_x ((own_x ((own_x q) * (own_inv (-4265267296055464877 : Int64)))) * (own_inv (-49064778989728563 : Int64))))), .second] []))
  refine own_go (XS.lloadN X2.here hx rfl (hb hby own_unmix_41) rfl (Steps.refl _)) ?_
  show own_Go p e below _ (T2.setTop (mkF m 42 #[.val (.long q), .second, .val (.long (own_x ((own_x ((own_x q) * (own_inv (-4265267296055464877 : Int64)))) * (own_inv (-49064778989728563 : Int64))))), .second] [(.long (own_x ((own_x ((own_x q) * (own_inv (-4265267296055464877 : Int64)))) * (own_inv (-49064778989728563 : Int64)))))]))
  exact own_retJ X2 hx hlk e2 Bd.returns (hb hby own_unmix_42) ⟨rfl, rfl, rfl⟩ (by decide) (by decide)
theorem own_f7 (m : MethodId) (x0 : Int64) : entryFrame m #[(.long x0)] maxLocals = mkF m 0 #[.val (.long x0), .second, .unset, .unset, .unset, .unset, .unset, .unset] [] := by first | (simp [entryFrame, mkF, argsToLocals, Value.category, maxLocals]; done) | rfl
set_option maxRecDepth 65536 in
set_option maxHeartbeats 40000000 in
theorem rm_law (l : Launch) (Z : State) (a0 : Array Value) (hw : ∀ d ∈ tables_1, d.before a0 Z = true) (q : Int64) (h0 : Heap) (n0 : Nat) (Z0 : n0 ≤ h0.size)  :
    own_MetL l Z (#[(.long q)]) h0 (fun v h L => v = some (.int 1) ∧ Fr n0 L) := by
  refine MetFree.of_bodySF (plainFor_of_name own_f1) hisR ?_
  intro p e s m args below meth c s₁ Bd hml0 hP hK
  obtain ⟨rfl, hZ, hh⟩ := hP
  have hx := Bd.exec
  have hby := Bd.bytes
  have hlk : meth.locks = false := Bd.notSynchronized
  have hml : c.maxLocals = 8 := hml0
  have hown : s.vm.findClass "com/example/gate0/gate0/MurmurHash3Fmix64PinLaw" = some m.cls := findClass_of_methodNamed Bd.named
  have hnm := (name_of_methodNamed Bd.named Bd.method).1
  have X0 : Stand p l e room_1 s m #[(.long q)] below meth c s₁ [] 0 0 := Stand.of_body Bd
  have e0 : s₁.heap = h0 := by rw [← hh, Bd.state]; rfl
  show own_Go p e below (own_G s (fun v h L => v = some (.int 1) ∧ Fr n0 L) room_1.cells room_1.slots) (s₁.setTop (entryFrame m #[(.long q)] maxLocals))
  rw [own_f7]
  show own_Go p e below _ (s₁.setTop (mkF m 0 #[.val (.long q), .second, .unset, .unset, .unset, .unset, .unset, .unset] []))
  refine own_go (XS.lloadN X0.here hx rfl (hb hby at_0) rfl (Steps.refl _)) ?_
  show own_Go p e below _ (s₁.setTop (mkF m 1 #[.val (.long q), .second, .unset, .unset, .unset, .unset, .unset, .unset] [(.long q)]))
  obtain ⟨_, _, ⟨T3, L3, k3, n3⟩, -, X3, ⟨Lc3, hQ3, l3, y3, z3⟩, st3⟩ := Jvm.LawKit.callS X0 hx (y := (⟨"com/example/gate0/gate0/MurmurHash3", "fmix64", "(J)J"⟩ : MethodName)) hown (mvT hZ (hw _ (List.mem_of_getElem? (i := 0) rfl))) (mvT hZ (hw _ (List.mem_of_getElem? (i := 1) rfl))) (mvT hZ (hw _ (List.mem_of_getElem? (i := 2) rfl))) (mvT hZ (hw _ (List.mem_of_getElem? (i := 3) rfl))) (by decide) (own_pays (W := 0) (rm_fmix l Z a0 hw q h0 n0 Z0) hZ (hw _ (List.mem_of_getElem? (i := 3) rfl)) (hw _ (List.mem_of_getElem? (i := 2) rfl)) (by decide) (by decide)) (g := (mkF m 1 #[.val (.long q), .second, .unset, .unset, .unset, .unset, .unset, .unset] [(.long q)])) rfl (by rw [hml]; rfl) (argsL := [(.long q)]) (rest := []) (lenOf own_f6 rfl) rfl (by show 2 * 0 + _ ≤ _; exact Nat.le_of_eq rfl) (hb hby at_1) (fun _ _ => ⟨rfl, e0, (by decide : 0 + 0 ≤ _), (by decide : 0 + 0 ≤ _)⟩)
  dsimp only [Pt.U, Pt.locs, Pt.cells, Pt.slots] at X3 l3 y3 z3 st3 hQ3
  subst l3 y3 z3
  obtain ⟨rfl, rfl, e3⟩ := hQ3
  try rw [List.append_nil] at X3
  refine own_go (st3 _ (Steps.refl _)) ?_
  show own_Go p e below _ (T3.setTop (mkF m 4 #[.val (.long q), .second, .unset, .unset, .unset, .unset, .unset, .unset] [(.long (own_fmix q))]))
  refine own_go (XS.lstoreN X3.here hx rfl (hb hby at_4) rfl (l' := #[.val (.long q), .second, .val (.long (own_fmix q)), .second, .unset, .unset, .unset, .unset]) rfl (Steps.refl _)) ?_
  show own_Go p e below _ (T3.setTop (mkF m 5 #[.val (.long q), .second, .val (.long (own_fmix q)), .second, .unset, .unset, .unset, .unset] []))
  refine own_go (XS.lloadN X3.here hx rfl (hb hby at_5) rfl (Steps.refl _)) ?_
  show own_Go p e below _ (T3.setTop (mkF m 6 #[.val (.long q), .second, .val (.long (own_fmix q)), .second, .unset, .unset, .unset, .unset] [(.long q)]))
  obtain ⟨_, _, ⟨T4, L4, k4, n4⟩, -, X4, ⟨Lc4, hQ4, l4, y4, z4⟩, st4⟩ := Jvm.LawKit.callS X3 hx (y := (⟨"com/example/gate0/gate0/MurmurHash3Fmix64PinLaw", "unmix", "(J)J"⟩ : MethodName)) hown (mvT hZ (hw _ (List.mem_of_getElem? (i := 6) rfl))) (mvT hZ (hw _ (List.mem_of_getElem? (i := 7) rfl))) (mvT hZ (hw _ (List.mem_of_getElem? (i := 8) rfl))) (mvT hZ (hw _ (List.mem_of_getElem? (i := 9) rfl))) (by decide) (own_pays (W := 0) (rm_unmix l Z a0 hw q h0 n0 Z0) hZ (hw _ (List.mem_of_getElem? (i := 9) rfl)) (hw _ (List.mem_of_getElem? (i := 8) rfl)) (by decide) (by decide)) (g := (mkF m 6 #[.val (.long q), .second, .val (.long (own_fmix q)), .second, .unset, .unset, .unset, .unset] [(.long q)])) rfl (by rw [hml]; rfl) (argsL := [(.long q)]) (rest := []) (lenOf own_f6 rfl) rfl (by show 2 * 0 + _ ≤ _; exact Nat.le_of_eq rfl) (hb hby at_6) (fun _ _ => ⟨rfl, e3, (by decide : 0 + 0 ≤ _), (by decide : 0 + 0 ≤ _)⟩)
  dsimp only [Pt.U, Pt.locs, Pt.cells, Pt.slots] at X4 l4 y4 z4 st4 hQ4
  subst l4 y4 z4
  obtain ⟨rfl, rfl, e4⟩ := hQ4
  try rw [List.append_nil] at X4
  refine own_go (st4 _ (Steps.refl _)) ?_
  show own_Go p e below _ (T4.setTop (mkF m 9 #[.val (.long q), .second, .val (.long (own_fmix q)), .second, .unset, .unset, .unset, .unset] [(.long (own_unmix q))]))
  refine own_go (XS.lstore X4.here hx rfl (hb hby at_9) rfl (l' := #[.val (.long q), .second, .val (.long (own_fmix q)), .second, .val (.long (own_unmix q)), .second, .unset, .unset]) rfl (Steps.refl _)) ?_
  show own_Go p e below _ (T4.setTop (mkF m 11 #[.val (.long q), .second, .val (.long (own_fmix q)), .second, .val (.long (own_unmix q)), .second, .unset, .unset] []))
  refine own_go (XS.lload X4.here hx rfl (hb hby at_11) rfl (Steps.refl _)) ?_
  show own_Go p e below _ (T4.setTop (mkF m 13 #[.val (.long q), .second, .val (.long (own_fmix q)), .second, .val (.long (own_unmix q)), .second, .unset, .unset] [(.long (own_unmix q))]))
  obtain ⟨_, _, ⟨T5, L5, k5, n5⟩, -, X5, ⟨Lc5, hQ5, l5, y5, z5⟩, st5⟩ := Jvm.LawKit.callS X4 hx (y := (⟨"com/example/gate0/gate0/MurmurHash3", "fmix64", "(J)J"⟩ : MethodName)) hown (mvT hZ (hw _ (List.mem_of_getElem? (i := 0) rfl))) (mvT hZ (hw _ (List.mem_of_getElem? (i := 1) rfl))) (mvT hZ (hw _ (List.mem_of_getElem? (i := 2) rfl))) (mvT hZ (hw _ (List.mem_of_getElem? (i := 3) rfl))) (by decide) (own_pays (W := 0) (rm_fmix l Z a0 hw (own_unmix q) h0 n0 Z0) hZ (hw _ (List.mem_of_getElem? (i := 3) rfl)) (hw _ (List.mem_of_getElem? (i := 2) rfl)) (by decide) (by decide)) (g := (mkF m 13 #[.val (.long q), .second, .val (.long (own_fmix q)), .second, .val (.long (own_unmix q)), .second, .unset, .unset] [(.long (own_unmix q))])) rfl (by rw [hml]; rfl) (argsL := [(.long (own_unmix q))]) (rest := []) (lenOf own_f6 rfl) rfl (by show 2 * 0 + _ ≤ _; exact Nat.le_of_eq rfl) (hb hby at_13) (fun _ _ => ⟨rfl, e4, (by decide : 0 + 0 ≤ _), (by decide : 0 + 0 ≤ _)⟩)
  dsimp only [Pt.U, Pt.locs, Pt.cells, Pt.slots] at X5 l5 y5 z5 st5 hQ5
  subst l5 y5 z5
  obtain ⟨rfl, rfl, e5⟩ := hQ5
  try rw [List.append_nil] at X5
  refine own_go (st5 _ (Steps.refl _)) ?_
  show own_Go p e below _ (T5.setTop (mkF m 16 #[.val (.long q), .second, .val (.long (own_fmix q)), .second, .val (.long (own_unmix q)), .second, .unset, .unset] [(.long (own_fmix (own_unmix q)))]))
  refine own_go (XS.lstore X5.here hx rfl (hb hby at_16) rfl (l' := #[.val (.long q), .second, .val (.long (own_fmix q)), .second, .val (.long (own_unmix q)), .second, .val (.long (own_fmix (own_unmix q))), .second]) rfl (Steps.refl _)) ?_
  show own_Go p e below _ (T5.setTop (mkF m 18 #[.val (.long q), .second, .val (.long (own_fmix q)), .second, .val (.long (own_unmix q)), .second, .val (.long (own_fmix (own_unmix q))), .second] []))
  refine own_go (XS.lloadN X5.here hx rfl (hb hby at_18) rfl (Steps.refl _)) ?_
  show own_Go p e below _ (T5.setTop (mkF m 19 #[.val (.long q), .second, .val (.long (own_fmix q)), .second, .val (.long (own_unmix q)), .second, .val (.long (own_fmix (own_unmix q))), .second] [(.long (own_fmix q))]))
  obtain ⟨_, _, ⟨T6, L6, k6, n6⟩, -, X6, ⟨Lc6, hQ6, l6, y6, z6⟩, st6⟩ := Jvm.LawKit.callS X5 hx (y := (⟨"com/example/gate0/gate0/MurmurHash3Fmix64PinLaw", "unmix", "(J)J"⟩ : MethodName)) hown (mvT hZ (hw _ (List.mem_of_getElem? (i := 6) rfl))) (mvT hZ (hw _ (List.mem_of_getElem? (i := 7) rfl))) (mvT hZ (hw _ (List.mem_of_getElem? (i := 8) rfl))) (mvT hZ (hw _ (List.mem_of_getElem? (i := 9) rfl))) (by decide) (own_pays (W := 0) (rm_unmix l Z a0 hw (own_fmix q) h0 n0 Z0) hZ (hw _ (List.mem_of_getElem? (i := 9) rfl)) (hw _ (List.mem_of_getElem? (i := 8) rfl)) (by decide) (by decide)) (g := (mkF m 19 #[.val (.long q), .second, .val (.long (own_fmix q)), .second, .val (.long (own_unmix q)), .second, .val (.long (own_fmix (own_unmix q))), .second] [(.long (own_fmix q))])) rfl (by rw [hml]; rfl) (argsL := [(.long (own_fmix q))]) (rest := []) (lenOf own_f6 rfl) rfl (by show 2 * 0 + _ ≤ _; exact Nat.le_of_eq rfl) (hb hby at_19) (fun _ _ => ⟨rfl, e5, (by decide : 0 + 0 ≤ _), (by decide : 0 + 0 ≤ _)⟩)
  dsimp only [Pt.U, Pt.locs, Pt.cells, Pt.slots] at X6 l6 y6 z6 st6 hQ6
  subst l6 y6 z6
  obtain ⟨rfl, rfl, e6⟩ := hQ6
  try rw [List.append_nil] at X6
  refine own_go (st6 _ (Steps.refl _)) ?_
  show own_Go p e below _ (T6.setTop (mkF m 22 #[.val (.long q), .second, .val (.long (own_fmix q)), .second, .val (.long (own_unmix q)), .second, .val (.long (own_fmix (own_unmix q))), .second] [(.long (own_unmix (own_fmix q)))]))
  refine own_go (XS.lloadN X6.here hx rfl (hb hby at_22) rfl (Steps.refl _)) ?_
  show own_Go p e below _ (T6.setTop (mkF m 23 #[.val (.long q), .second, .val (.long (own_fmix q)), .second, .val (.long (own_unmix q)), .second, .val (.long (own_fmix (own_unmix q))), .second] [(.long q), (.long (own_unmix (own_fmix q)))]))
  refine own_go (XS.lcmp X6.here hx rfl (hb hby at_23) rfl (Steps.refl _)) ?_
  show own_Go p e below _ (T6.setTop (mkF m 24 #[.val (.long q), .second, .val (.long (own_fmix q)), .second, .val (.long (own_unmix q)), .second, .val (.long (own_fmix (own_unmix q))), .second] [(.int (lcmpW (own_unmix (own_fmix q)) q))]))
  refine own_go (XS.ifNo X6.here hx rfl (hb hby at_24) rfl (own_teqJ (own_law1 q)).2 (Steps.refl _)) ?_
  show own_Go p e below _ (T6.setTop (mkF m 27 #[.val (.long q), .second, .val (.long (own_fmix q)), .second, .val (.long (own_unmix q)), .second, .val (.long (own_fmix (own_unmix q))), .second] []))
  refine own_go (XS.lload X6.here hx rfl (hb hby at_27) rfl (Steps.refl _)) ?_
  show own_Go p e below _ (T6.setTop (mkF m 29 #[.val (.long q), .second, .val (.long (own_fmix q)), .second, .val (.long (own_unmix q)), .second, .val (.long (own_fmix (own_unmix q))), .second] [(.long (own_fmix (own_unmix q)))]))
  refine own_go (XS.lloadN X6.here hx rfl (hb hby at_29) rfl (Steps.refl _)) ?_
  show own_Go p e below _ (T6.setTop (mkF m 30 #[.val (.long q), .second, .val (.long (own_fmix q)), .second, .val (.long (own_unmix q)), .second, .val (.long (own_fmix (own_unmix q))), .second] [(.long q), (.long (own_fmix (own_unmix q)))]))
  refine own_go (XS.lcmp X6.here hx rfl (hb hby at_30) rfl (Steps.refl _)) ?_
  show own_Go p e below _ (T6.setTop (mkF m 31 #[.val (.long q), .second, .val (.long (own_fmix q)), .second, .val (.long (own_unmix q)), .second, .val (.long (own_fmix (own_unmix q))), .second] [(.int (lcmpW (own_fmix (own_unmix q)) q))]))
  refine own_go (XS.ifNo X6.here hx rfl (hb hby at_31) rfl (own_teqJ (own_law2 q)).2 (Steps.refl _)) ?_
  show own_Go p e below _ (T6.setTop (mkF m 34 #[.val (.long q), .second, .val (.long (own_fmix q)), .second, .val (.long (own_unmix q)), .second, .val (.long (own_fmix (own_unmix q))), .second] []))
  refine own_go (XS.iconst X6.here hx rfl (hb hby at_34) (Steps.refl _)) ?_
  show own_Go p e below _ (T6.setTop (mkF m 35 #[.val (.long q), .second, .val (.long (own_fmix q)), .second, .val (.long (own_unmix q)), .second, .val (.long (own_fmix (own_unmix q))), .second] [(.int (1 : Int32))]))
  refine own_go (XS.goto X6.here hx rfl (pc0 := 35) (pc' := 39) rfl (hb hby at_35) (by decide) (by decide) (Steps.refl _)) ?_
  show own_Go p e below _ (T6.setTop (mkF m 39 #[.val (.long q), .second, .val (.long (own_fmix q)), .second, .val (.long (own_unmix q)), .second, .val (.long (own_fmix (own_unmix q))), .second] [(.int (1 : Int32))]))
  exact own_retZ X6 hx hlk e6 Bd.returns (hb hby at_39) (Or.inr rfl) ⟨rfl, Fr.nil n0⟩ (by decide) (by decide)
set_option maxRecDepth 65536 in
set_option maxHeartbeats 40000000 in
theorem comes_1 {Post : Tables → Env → Array Value → State → Outcome → State → Prop} (hpost : ∀ tb e args s v u, (limb_1_1.after args s (.returned v) u = true ∧ limb_1_2.after args s (.returned v) u = true ∧ True) → FrameEnd s (.returned v) u (Jvm.fieldLocs frame_1_writes args s ++ Jvm.arrayLocs frame_1_arrays args s ++ Jvm.staticLocs frame_1_statics s) 0 0 → Post tb e args s (.returned v) u) :
    ArmFor flags0 classFile x code maxLocals ret World_1 tables_1 room_1 Calls_1 rest_1 Pre_1 Post := by
  intro l hfl _ _ p e ha hc hk s m args below hf hA hF happ hP
  obtain ⟨hcalls, hrest, hpre⟩ := hP
  obtain ⟨-, -, -, hnamed, -, -, -, hat⟩ := (Spec.applies_iff hf).mp happ
  obtain ⟨hg, hn⟩ := and_e (Cond.before_iff.mp (show (Jvm.Cond.and given_1 narrow_1).before args s = true from hpre))
  obtain ⟨gc, ga0⟩ := and_e hg
  obtain ⟨w0, rfl⟩ : ∃ w0 : Value, args = #[w0] := by
    have hs : args.size = 1 := by simpa [Cond.value, given_1] using gc
    obtain ⟨L⟩ := args
    match L, hs with
    | [w0], _ => exact ⟨w0, rfl⟩
  have hw := fun d (hd : d ∈ tables_1) => atoms_spec (ws := Jvm.Cond.code x code maxLocals ret :: tables_1) hat d (List.mem_cons_of_mem _ hd)
  obtain ⟨i0, ei0⟩ := isL_v ga0
  obtain rfl : w0 = (.long i0) := Option.some.inj ei0
  obtain ⟨n, o, h1, h2, h3, _, L, rfl, ⟨rfl, N⟩, hq⟩ := rm_law l s _ hw i0 s.heap s.heap.size (Nat.le_refl _) p e ha hc hk s m _ below hf ((Spec.applies_iff_loose hf).mp happ).1 ⟨rfl, State.Warmed39.refl s, rfl⟩ trivial
  exact ⟨n, _, h1, h2, h3, hpost _ _ _ _ _ _ ⟨Cond.after_iff.mpr rfl, Cond.after_iff.mpr (eq_i res_at (Term.int_eval (1)) rfl), trivial⟩ ⟨hq.1, hq.2.1, (hq.2.2.sift fun y hy => Or.inr (N y hy)).mono (by decide) (by decide)⟩⟩
theorem main_1_1 : Claimed_1_1 := comes_1 fun _ _ _ _ _ _ h hF => ⟨h.1, hF⟩
theorem main_1_2 : Claimed_1_2 := comes_1 fun _ _ _ _ _ _ h hF => ⟨h.2.1, hF⟩
end Jvm.Pilot.@@N@@
namespace Jvm.Pilot.@@N@@
open Jvm Jvm.ClassFile Sem Op Lib Jvm.Free Jvm.Stand Jvm.Pilot.@@N@@.Jvm.D
/-! MADE BY PROGRAM (witnessworld.py) out of the Statement's table words and the real class files: 9 classes; the members and pool entries that the words name. The judged class is class 1, her method 1. -/
namespace start1
open Jvm.ClassFile
def u (s : String) : CpInfo := .utf8 (stringToUtf16 s)
/-- a pool by its gaps: so many unusable entries, then the entry; so many at the end -/
def gap : Nat → List CpInfo → List CpInfo
  | 0, r => r
  | n + 1, r => .unusable :: gap n r
def poolList (es : List (Nat × CpInfo)) (last : Nat) : List CpInfo := es.foldr (fun e r => gap e.1 (e.2 :: r)) (gap last [])
def pool (es : List (Nat × CpInfo)) (last : Nat) : Array CpInfo := ⟨poolList es last⟩
def fileOf (pool : Array CpInfo) (this : Nat) (attrs : Array Attribute := #[]) (ms : Array MethodInfo := #[]) (fl : Nat := 33) (sup : Nat := 0) (ifs : Array Nat := #[]) (fds : Array FieldInfo := #[]) : ClassFile where
  minorVersion := 0
  majorVersion := 65
  constantPool := pool
  accessFlags := fl
  thisClass := this
  superClass := sup
  interfaces := ifs
  fields := fds
  methods := ms
  attributes := attrs
def plain (name : String) (sup : Option ClassId) : Class where
  name := name
  kind := .ordinary
  loader := none
  accessFlags := 33
  super := sup
  interfaces := #[]
  cf := none
  fields := #[]
  methods := #[]
  instanceTypes := #[]
  staticTypes := #[]
  resolved := #[]
  callSites := []
  init := .initialized
  statics := none
  mirror := none

def pool0 : Array CpInfo := pool [(5, u "<init>"), (0, u "()V"), (1, .class_ 10), (1, u "java/lang/Object")] 113

def k0m0 : Method := { name := "<init>", desc := "()V", sig := { parameters := [], returnType := none }, accessFlags := 1, code := none }
/-- java/lang/Object -/
def k0 : Class := { plain "java/lang/Object" none with
  accessFlags := 33
  interfaces := #[]
  cf := some (fileOf pool0 8 #[] #[{ accessFlags := 1, nameIndex := 5, descriptorIndex := 6, attributes := #[] }] 33 0 #[] #[])
  fields := #[]
  methods := #[k0m0]
  instanceTypes := #[]
  staticTypes := #[]
  resolved := Array.replicate 124 none
  statics := none }

def pool1 : Array CpInfo := pool [(2, .class_ 4), (1, u "java/lang/Object"), (0, u "<init>"), (0, u "()V"), (0, .methodref 8 9), (0, .class_ 10), (0, .nameAndType 11 12), (0, u "com/example/gate0/gate0/MurmurHash3"), (0, u "fmix64"), (0, u "(J)J"), (0, .methodref 14 15), (0, .class_ 16), (0, .nameAndType 17 12), (0, u "com/example/gate0/gate0/MurmurHash3Fmix64PinLaw"), (0, u "unmix"), (0, .long 2), (1, .long 14181476777654086739), (1, .methodref 14 23), (0, .nameAndType 24 12), (0, u "inverseOdd"), (0, .long 18397679294719823053), (3, u "law"), (0, u "(J)Z")] 3

def k1m0 : Method := { name := "<init>", desc := "()V", sig := { parameters := [], returnType := none }, accessFlags := 2, code := none }
def k1c1 : Code := { maxStack := 4, maxLocals := 8, code := code, exceptionTable := #[], attributes := #[] }
def k1m1 : Method := { name := "law", desc := "(J)Z", sig := { parameters := [.long], returnType := some .boolean }, accessFlags := 9, code := some k1c1 }
def k1c2 : Code := { maxStack := 8, maxLocals := 4, code := method_3_code, exceptionTable := #[], attributes := #[] }
def k1m2 : Method := { name := "inverseOdd", desc := "(J)J", sig := { parameters := [.long], returnType := some .long }, accessFlags := 10, code := some k1c2 }
def k1c3 : Code := { maxStack := 5, maxLocals := 4, code := method_4_code, exceptionTable := #[], attributes := #[] }
def k1m3 : Method := { name := "unmix", desc := "(J)J", sig := { parameters := [.long], returnType := some .long }, accessFlags := 10, code := some k1c3 }
/-- com/example/gate0/gate0/MurmurHash3Fmix64PinLaw -/
def k1 : Class := { plain "com/example/gate0/gate0/MurmurHash3Fmix64PinLaw" (some 0) with
  accessFlags := 49
  interfaces := #[]
  cf := some (fileOf pool1 14 #[] #[{ accessFlags := 2, nameIndex := 5, descriptorIndex := 6, attributes := #[] }, { accessFlags := 9, nameIndex := 29, descriptorIndex := 30, attributes := #[] }, { accessFlags := 10, nameIndex := 24, descriptorIndex := 12, attributes := #[] }, { accessFlags := 10, nameIndex := 17, descriptorIndex := 12, attributes := #[] }] 49 2 #[] #[])
  fields := #[]
  methods := #[k1m0, k1m1, k1m2, k1m3]
  instanceTypes := #[]
  staticTypes := #[]
  resolved := Array.replicate 34 none
  statics := none }

def pool2 : Array CpInfo := pool [(2, .class_ 4), (1, u "java/lang/Object"), (0, u "<init>"), (0, u "()V"), (8, .class_ 16), (0, u "com/example/gate0/gate0/MurmurHash3"), (8, u "LITTLE_ENDIAN_LONG"), (0, u "Ljava/lang/invoke/VarHandle;"), (11, u "(J)J"), (17, u "fmix64"), (0, .class_ 58), (0, u "com/example/gate0/gate0/MurmurHash3$Digest"), (3, .long 18397679294719823053), (1, .long 14181476777654086739), (19, u "C1"), (0, u "J"), (1, u "C2"), (0, u "BLOCK_BYTES"), (0, u "I")] 14

def k2m0 : Method := { name := "<init>", desc := "()V", sig := { parameters := [], returnType := none }, accessFlags := 2, code := none }
def k2c1 : Code := { maxStack := 5, maxLocals := 4, code := prog_27_method_3_code, exceptionTable := #[], attributes := #[] }
def k2m1 : Method := { name := "fmix64", desc := "(J)J", sig := { parameters := [.long], returnType := some .long }, accessFlags := 8, code := some k2c1 }
/-- com/example/gate0/gate0/MurmurHash3 -/
def k2 : Class := { plain "com/example/gate0/gate0/MurmurHash3" (some 0) with
  accessFlags := 48
  interfaces := #[]
  cf := some (fileOf pool2 15 #[.nestMembers #[57]] #[{ accessFlags := 2, nameIndex := 5, descriptorIndex := 6, attributes := #[] }, { accessFlags := 8, nameIndex := 56, descriptorIndex := 38, attributes := #[] }] 48 2 #[] #[{ accessFlags := 26, nameIndex := 84, descriptorIndex := 85, attributes := #[] }, { accessFlags := 26, nameIndex := 87, descriptorIndex := 85, attributes := #[] }, { accessFlags := 26, nameIndex := 88, descriptorIndex := 89, attributes := #[] }, { accessFlags := 26, nameIndex := 25, descriptorIndex := 26, attributes := #[] }])
  fields := #[{ name := "C1", type := .long, accessFlags := 26, slot := 0, constantValue := 0 }, { name := "C2", type := .long, accessFlags := 26, slot := 1, constantValue := 0 }, { name := "BLOCK_BYTES", type := .int, accessFlags := 26, slot := 2, constantValue := 0 }, { name := "LITTLE_ENDIAN_LONG", type := (.object "java/lang/invoke/VarHandle"), accessFlags := 26, slot := 3, constantValue := 0 }]
  methods := #[k2m0, k2m1]
  instanceTypes := #[]
  staticTypes := #[.long, .long, .int, (.object "java/lang/invoke/VarHandle")]
  resolved := Array.replicate 104 none
  statics := none }

def pool3 : Array CpInfo := pool [(1, u "java/lang/Cloneable"), (0, .class_ 1), (0, u "java/lang/Object"), (0, .class_ 3)] 3

/-- java/lang/Cloneable -/
def k3 : Class := { plain "java/lang/Cloneable" (some 0) with
  accessFlags := 1537
  interfaces := #[]
  cf := some (fileOf pool3 2 #[] #[] 1537 4 #[] #[])
  fields := #[]
  methods := #[]
  instanceTypes := #[]
  staticTypes := #[]
  resolved := Array.replicate 8 none
  statics := none }

def pool4 : Array CpInfo := pool [(1, u "java/io/Serializable"), (0, .class_ 1), (0, u "java/lang/Object"), (0, .class_ 3)] 3

/-- java/io/Serializable -/
def k4 : Class := { plain "java/io/Serializable" (some 0) with
  accessFlags := 1537
  interfaces := #[]
  cf := some (fileOf pool4 2 #[] #[] 1537 4 #[] #[])
  fields := #[]
  methods := #[]
  instanceTypes := #[]
  staticTypes := #[]
  resolved := Array.replicate 8 none
  statics := none }

/-- the primitive byte -/
def k5 : Class := { plain "byte" none with kind := .primitive 'B', accessFlags := 0x411 }
/-- [B -/
def k6 : Class := { plain "[B" (some 0) with kind := .array 5 .byte, interfaces := #[3, 4], accessFlags := 1041 }

/-- the primitive int -/
def k7 : Class := { plain "int" none with kind := .primitive 'I', accessFlags := 0x411 }
/-- [I -/
def k8 : Class := { plain "[I" (some 0) with kind := .array 7 .int, interfaces := #[3, 4], accessFlags := 1041 }

def heap : Heap := #[]
def classes : Array Class := #[k0, k1, k2, k3, k4, k5, k6, k7, k8]
def interned : List (Array UInt16 × Addr) := []
def slotsUsed : Nat := 0
def theMethod : MethodId := ⟨1, 1⟩
def args0 : Array Value := #[.long 5]
def aboutOver (below : List Frame) : State where
  vm := { classes := classes, interned := interned.toArray }
  heap := heap
  slotsUsed := slotsUsed
  threads := #[{ frames := .invoking theMethod args0 :: below }]
def below0 : List Frame := [.native { method := ⟨0, 0⟩, args := #[] }]
def about1 : State := aboutOver below0
def p0 : Program := .bare "" "" ""
def e0 : Env := launch0.env 0 0 0
theorem w_frames : about1.frames = Frame.invoking theMethod args0 :: below0 := rfl
set_option maxRecDepth 65536 in
theorem w_args : argsFit about1.vm theMethod args0 = true := by decide +kernel
set_option maxRecDepth 65536 in
theorem w_heap : heapFits about1 = true := by decide +kernel
set_option maxRecDepth 65536 in
theorem w_runnable : about1.curStatus? = some .runnable := by decide +kernel
set_option maxRecDepth 65536 in
theorem w_alone : about1.alone = true := by decide +kernel
set_option maxRecDepth 65536 in
theorem w_named : about1.methodNamed? x = some theMethod := by decide +kernel
set_option maxRecDepth 65536 in
theorem w_hears : about1.hears theMethod below0 = true := by decide +kernel
set_option maxRecDepth 65536 in
theorem w_ripe : about1.ripe theMethod args0 below0 = true := by decide +kernel
theorem w_running : about1.status = .running := rfl
set_option maxRecDepth 65536 in
theorem w_room : about1.hasRoom e0.platform room_1 = true :=
  launch0.hasRoom_least _ room_1 (by decide +kernel) (by decide +kernel) (by decide +kernel) (by decide +kernel) (by decide +kernel) (by decide +kernel)
theorem allAtoms_all (ts : List Jvm.Cond) (a : Array Jvm.Value) (st : Jvm.State) : (allAtoms ts).before a st = ts.all (fun c => c.before a st) := by
  induction ts with
  | nil => rfl
  | cons c t ih =>
    show (Jvm.Cond.and c (allAtoms t)).before a st = _
    rw [Jvm.Cond.before_and, ih, List.all_cons]
def words1 : List Jvm.Cond := Jvm.Cond.code x code maxLocals ret :: tables_1
/-- a 'code' word, met by the world's own term for the bytes: nothing is compared byte by byte -/
theorem code_word {y : MethodName} {bytes : ByteArray} {mx : Nat} {rt : Option FieldType} {a : Array Value} {s : State} {m : MethodId} {meth : Method} {c : Code} (h1 : s.methodNamed? y = some m) (h2 : s.vm.method? m = some meth) (h3 : meth.code = some c) (h4 : c.code = bytes)
    (h5 : (c.maxLocals == mx && c.exceptionTable.isEmpty && decide (c.maxStack ≤ mostOperands) && decide (meth.sig.returnType = rt) && !meth.locks && decide (parseMethodDescriptor y.desc = some meth.sig)) = true) : (Jvm.Cond.code y bytes mx rt).before a s = true := by
  simp only [Bool.and_eq_true, beq_iff_eq, Bool.not_eq_true', decide_eq_true_eq] at h5
  obtain ⟨⟨⟨⟨⟨g1, g2⟩, g3⟩, g4⟩, g5⟩, g6⟩ := h5
  simp [Cond.before, Cond.holds, Cond.value, h1, h2, h3, h4, g1, g2, g3, g4, g5, g6]
def isCode : Jvm.Cond → Bool
  | .code _ _ _ _ => true
  | _ => false
theorem all_split {L : List Jvm.Cond} {P : Jvm.Cond → Bool} (h1 : L.all (fun c => isCode c || P c) = true) (h2 : ∀ c ∈ L.filter isCode, P c = true) : L.all P = true := by
  refine List.all_eq_true.mpr fun c hc => ?_
  have h := List.all_eq_true.mp h1 c hc
  rcases Bool.eq_false_or_eq_true (isCode c) with hi | hi
  · exact h2 c (List.mem_filter.mpr ⟨hc, hi⟩)
  · simpa [hi] using h
set_option maxRecDepth 65536 in
theorem w_c0 : (Jvm.Cond.code x code maxLocals ret).before args0 about1 = true := code_word (m := ⟨1, 1⟩) (meth := k1m1) (c := k1c1) (by decide +kernel) rfl rfl rfl (by decide +kernel)
set_option maxRecDepth 65536 in
theorem w_c1 : (Jvm.Cond.code ({ cls := "com/example/gate0/gate0/MurmurHash3", name := "fmix64", desc := "(J)J" } : Jvm.MethodName) prog_27_method_3_code (4 : Nat) (Option.some Jvm.ClassFile.FieldType.long)).before args0 about1 = true := code_word (m := ⟨2, 1⟩) (meth := k2m1) (c := k2c1) (by decide +kernel) rfl rfl rfl (by decide +kernel)
set_option maxRecDepth 65536 in
theorem w_c2 : (Jvm.Cond.code ({ cls := "com/example/gate0/gate0/MurmurHash3Fmix64PinLaw", name := "unmix", desc := "(J)J" } : Jvm.MethodName) method_4_code (4 : Nat) (Option.some Jvm.ClassFile.FieldType.long)).before args0 about1 = true := code_word (m := ⟨1, 3⟩) (meth := k1m3) (c := k1c3) (by decide +kernel) rfl rfl rfl (by decide +kernel)
set_option maxRecDepth 65536 in
theorem w_c3 : (Jvm.Cond.code ({ cls := "com/example/gate0/gate0/MurmurHash3Fmix64PinLaw", name := "inverseOdd", desc := "(J)J" } : Jvm.MethodName) method_3_code (4 : Nat) (Option.some Jvm.ClassFile.FieldType.long)).before args0 about1 = true := code_word (m := ⟨1, 2⟩) (meth := k1m2) (c := k1c2) (by decide +kernel) rfl rfl rfl (by decide +kernel)
def codes1 : List Jvm.Cond := [Jvm.Cond.code x code maxLocals ret, Jvm.Cond.code ({ cls := "com/example/gate0/gate0/MurmurHash3", name := "fmix64", desc := "(J)J" } : Jvm.MethodName) prog_27_method_3_code (4 : Nat) (Option.some Jvm.ClassFile.FieldType.long), Jvm.Cond.code ({ cls := "com/example/gate0/gate0/MurmurHash3Fmix64PinLaw", name := "unmix", desc := "(J)J" } : Jvm.MethodName) method_4_code (4 : Nat) (Option.some Jvm.ClassFile.FieldType.long), Jvm.Cond.code ({ cls := "com/example/gate0/gate0/MurmurHash3Fmix64PinLaw", name := "inverseOdd", desc := "(J)J" } : Jvm.MethodName) method_3_code (4 : Nat) (Option.some Jvm.ClassFile.FieldType.long)]
set_option maxRecDepth 65536 in
theorem codes_eq : words1.filter isCode = codes1 := rfl
theorem w_codes : ∀ c ∈ words1.filter isCode, c.before args0 about1 = true := by
  rw [codes_eq]
  intro c hc
  simp only [codes1, List.mem_cons, List.not_mem_nil, or_false] at hc
  rcases hc with rfl | rfl | rfl | rfl
  · exact w_c0
  · exact w_c1
  · exact w_c2
  · exact w_c3
set_option maxRecDepth 65536 in
theorem w_t1 : words1.all (fun c => isCode c || c.before args0 about1) = true := by decide +kernel
theorem w_tables : (allAtoms (Jvm.Cond.code x code maxLocals ret :: tables_1)).before args0 about1 = true := by
  rw [allAtoms_all]
  show words1.all (fun c => c.before args0 about1) = true
  refine all_split ?_ w_codes
  rw [w_t1]
set_option maxRecDepth 65536 in
theorem w_case : (Jvm.Cond.and given_1 narrow_1).before args0 about1 = true := by decide +kernel
theorem w_applies : (headSpec (Jvm.Cond.code x code maxLocals ret :: tables_1) room_1).applies x e0.platform about1 = true :=
  (Spec.applies_iff w_frames).mpr ⟨w_running, w_runnable, w_alone, w_named, w_hears, w_ripe, w_room, w_tables⟩
theorem atStart : AtStart classFile x code maxLocals ret World_1 tables_1 room_1 Calls_1 rest_1 Pre_1 launch0 p0 e0 about1 theMethod args0 below0 :=
  ⟨lists_1, trivial, launch0.admits_env _ _ _, launch0.least_env, fairChoices_fair.cas, fairChoices_fair.clock, w_frames, w_args, w_heap, w_applies, trivial, trivial, w_case⟩
end start1
theorem witness_1 : WitnessClaimed_1 := ⟨start1.p0, start1.e0, start1.about1, start1.theMethod, start1.args0, start1.below0, start1.atStart⟩
end Jvm.Pilot.@@N@@
