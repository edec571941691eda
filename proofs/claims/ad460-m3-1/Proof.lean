import JvmDerived
import JvmDerived.Pilot.@@N@@Statement
import JvmDerived.Pilot.@@N@@Code
set_option linter.unusedVariables false
set_option linter.unusedSimpArgs false
namespace Jvm.Pilot.@@N@@
open Jvm Jvm.ClassFile Sem Op Lib Jvm.Free Jvm.Stand Jvm.LawKit Jvm.RoadKit Bundle Jvm.Pilot.@@N@@.Jvm.D
def own_Go (p : Program) (e : Env) (below : List Frame) (G : Outcome → State → Prop) (t : State) : Prop :=
  ∃ s₂ o, Steps p.tables e below t s₂ ∧ s₂.status = .running ∧ Ended s₂ below o ∧ G o s₂
def own_G (s : State) (Q : Option Value → Heap → List Loc → Prop) (C S : Nat) (o : Outcome) (U : State) : Prop :=
  ∃ v L, o = .returned v ∧ Q v U.heap L ∧ FrameEnd s o U L C S
def own_Met (l : Launch) (Z : State) (y : MethodName) (bytes : ByteArray) (maxL : Nat) (rt : Option FieldType) (rm : Room) (as : Array Value) (h : Heap) (Q : Option Value → Heap → List Loc → Prop) : Prop :=
  MetFree l y (head1 [Jvm.Cond.code y bytes maxL rt] rm) (fun a U => a = as ∧ Z.Warmed39 U.vm ∧ U.heap = h) (fun _ _ _ _ _ => True) (fun _ U o U' => ∃ v L, o = .returned v ∧ Q v U'.heap L ∧ FrameEnd U o U' L rm.cells rm.slots)
def own_MetL (l : Launch) (Z : State) (as : Array Value) (h : Heap) (Q : Option Value → Heap → List Loc → Prop) : Prop :=
  MetFree l x (head1 (Jvm.Cond.code x code maxLocals ret :: tables_1) room_1) (fun a U => a = as ∧ Z.Warmed39 U.vm ∧ U.heap = h) (fun _ _ _ _ _ => True) (fun _ U o U' => ∃ v L, o = .returned v ∧ Q v U'.heap L ∧ FrameEnd U o U' L room_1.cells room_1.slots)
theorem own_pays {l : Launch} {Z : State} {p : Program} {e : Env} {R : Room} {s : State} {args : Array Value} {below : List Frame} {a0 : Array Value} {h : Heap} {y : MethodName} {bytes : ByteArray} {maxL : Nat} {rt : Option FieldType} {rm : Room} {len W : Nat} {as' : Array Value} {Q : Option Value → Heap → List Loc → Prop}
    (hM : own_Met l Z y bytes maxL rt rm as' h Q) (hZ : Z.Warmed39 s.vm) (wc : (Jvm.Cond.code y bytes maxL rt).before a0 Z = true) (wz : (Jvm.Cond.initialized y.cls).before a0 Z = true) (hf : rm.frames + 1 ≤ R.frames) (hl : W + (maxL + 11) + rm.locals ≤ R.locals) :
    Back l R p e below s args y len W (fun A a => a = as' ∧ A.U.heap = h ∧ A.cells + rm.cells ≤ R.cells ∧ A.slots + rm.slots ≤ R.slots)
      (fun A _ v B => ∃ L, Q v B.U.heap L ∧ B.locs = A.locs ++ L ∧ B.cells = A.cells + rm.cells ∧ B.slots = A.slots + rm.slots) :=
  backOf hM hZ wc wz hf hl
section OwnSteps
variable {p : Program} {l : Launch} {e : Env} {R : Room} {s : State} {m : MethodId} {args : Array Value} {below : List Frame} {meth : Method} {c : Code} {T : State} {locs : List Loc} {cells slots : Nat} {h : Heap} {G : Outcome → State → Prop} {t t' : State} {Q : Option Value → Heap → List Loc → Prop} {C S pc : Nat} {Ls : Array Slot} {rest : List Value}
theorem own_go (k : Steps p.tables e below t t') (r : own_Go p e below G t') : own_Go p e below G t := by
  obtain ⟨s₂, o, h1, h2⟩ := r
  exact ⟨s₂, o, k.trans h1, h2⟩
theorem own_ret (X : Stand p l e R s m args below meth c T locs cells slots) (hx : p.tables.exec = Jvm.exec) (hlk : meth.locks = false) (eT : T.heap = h) {w : Value} {ty : FieldType} {i : Instr} (hret : meth.sig.returnType = some ty) (hn : narrow ty w = w)
    (hi : (i = .ireturn ∧ (ty = .int ∨ ty = .boolean ∨ ty = .byte ∨ ty = .char ∨ ty = .short) ∧ ∃ z, w = .int z) ∨ (i = .lreturn ∧ ty = .long ∧ ∃ z, w = .long z) ∨ (i = .dreturn ∧ ty = .double ∧ ∃ z, w = .double z) ∨ (i = .freturn ∧ ty = .float ∧ ∃ z, w = .float z) ∨ (i = .areturn ∧ ty.isReference = true ∧ w.isRef = true))
    (hd : decode c.code pc = .ok (i, 1)) (hQ : Q (some w) h locs) (hc : cells ≤ C) (hs : slots ≤ S) : own_Go p e below (own_G s Q C S) (T.setTop (mkF m pc Ls (w :: rest))) := by
  obtain ⟨fs, hr, hrun, hended, hW, hsame⟩ := X.leave (v := some w) (fun q => by rw [hret] at q; cases q)
  exact ⟨_, _, retOut X hx hret hn hi hd hr, hrun, hended, _, _, rfl, by show Q _ T.heap _; rw [eT]; exact hQ, ⟨_, rfl⟩, hW, hsame.mono hc hs⟩
theorem own_retI (X : Stand p l e R s m args below meth c T locs cells slots) (hx : p.tables.exec = Jvm.exec) (hlk : meth.locks = false) (eT : T.heap = h) {z : Int32} (hret : meth.sig.returnType = some .int) (hd : decode c.code pc = .ok (.ireturn, 1)) (hQ : Q (some (.int z)) h locs) (hc : cells ≤ C) (hs : slots ≤ S) : own_Go p e below (own_G s Q C S) (T.setTop (mkF m pc Ls (.int z :: rest))) :=
  own_ret X hx hlk eT hret rfl (Or.inl ⟨rfl, Or.inl rfl, z, rfl⟩) hd hQ hc hs
theorem own_retZ (X : Stand p l e R s m args below meth c T locs cells slots) (hx : p.tables.exec = Jvm.exec) (hlk : meth.locks = false) (eT : T.heap = h) {z : Int32} (hret : meth.sig.returnType = some .boolean) (hd : decode c.code pc = .ok (.ireturn, 1)) (hz : z = 0 ∨ z = 1) (hQ : Q (some (.int z)) h locs) (hc : cells ≤ C) (hs : slots ≤ S) : own_Go p e below (own_G s Q C S) (T.setTop (mkF m pc Ls (.int z :: rest))) :=
  own_ret X hx hlk eT hret (by rcases hz with rfl | rfl <;> rfl) (Or.inl ⟨rfl, Or.inr (Or.inl rfl), z, rfl⟩) hd hQ hc hs
theorem own_retJ (X : Stand p l e R s m args below meth c T locs cells slots) (hx : p.tables.exec = Jvm.exec) (hlk : meth.locks = false) (eT : T.heap = h) {z : Int64} (hret : meth.sig.returnType = some .long) (hd : decode c.code pc = .ok (.lreturn, 1)) (hQ : Q (some (.long z)) h locs) (hc : cells ≤ C) (hs : slots ≤ S) : own_Go p e below (own_G s Q C S) (T.setTop (mkF m pc Ls (.long z :: rest))) :=
  own_ret X hx hlk eT hret rfl (Or.inr (Or.inl ⟨rfl, rfl, z, rfl⟩)) hd hQ hc hs
theorem own_retA (X : Stand p l e R s m args below meth c T locs cells slots) (hx : p.tables.exec = Jvm.exec) (hlk : meth.locks = false) (eT : T.heap = h) {a : Addr} {ty : FieldType} (hret : meth.sig.returnType = some ty) (ht : ty.isReference = true) (hd : decode c.code pc = .ok (.areturn, 1)) (hQ : Q (some (.ref a)) h locs) (hc : cells ≤ C) (hs : slots ≤ S) : own_Go p e below (own_G s Q C S) (T.setTop (mkF m pc Ls (.ref a :: rest))) :=
  own_ret X hx hlk eT hret (by cases ty <;> first | rfl | cases ht) (Or.inr (Or.inr (Or.inr (Or.inr ⟨rfl, ht, rfl⟩)))) hd hQ hc hs
theorem own_retV (X : Stand p l e R s m args below meth c T locs cells slots) (hx : p.tables.exec = Jvm.exec) (hlk : meth.locks = false) (eT : T.heap = h) (hret : meth.sig.returnType = none) (hd : decode c.code pc = .ok (.return_, 1)) (hQ : Q none h locs) (hc : cells ≤ C) (hs : slots ≤ S) : own_Go p e below (own_G s Q C S) (T.setTop (mkF m pc Ls [])) := by
  obtain ⟨fs, hr, hrun, hended, hW, hsame⟩ := X.leave (v := none) (fun _ => rfl)
  exact ⟨_, _, X.returnOut hx hret hd hr, hrun, hended, _, _, rfl, by show Q _ T.heap _; rw [eT]; exact hQ, ⟨_, rfl⟩, hW, hsame.mono hc hs⟩
end OwnSteps
def own_b (P : Prop) [Decidable P] : Int32 := if P then 1 else 0
theorem own_b_t {P : Prop} [Decidable P] (h : P) : own_b P = 1 := if_pos h
theorem own_b_f {P : Prop} [Decidable P] (h : ¬ P) : own_b P = 0 := if_neg h
theorem own_b_nz {P : Prop} [Decidable P] (h : P) : ¬ own_b P = 0 := by rw [own_b_t h]; decide
theorem own_b_01 (P : Prop) [Decidable P] : own_b P = 0 ∨ own_b P = 1 := by
  by_cases h : P
  · exact Or.inr (own_b_t h)
  · exact Or.inl (own_b_f h)
theorem own_tltJ {x y : Int64} (h : x < y) : ifCond.holds .lt (lcmpW x y) = true ∧ ifCond.holds .ge (lcmpW x y) = false := by
  have q := tlt (show lcmpW x y < 0 by rw [lcW]; exact (lc_lt x y).mpr h)
  exact ⟨(if0 _ _).trans q.1, (if0 _ _).trans q.2.1⟩
theorem own_fltJ {x y : Int64} (h : ¬ x < y) : ifCond.holds .lt (lcmpW x y) = false ∧ ifCond.holds .ge (lcmpW x y) = true := by
  have q := flt (show ¬ lcmpW x y < 0 by rw [lcW]; exact fun z => h ((lc_lt x y).mp z))
  exact ⟨(if0 _ _).trans q.1, (if0 _ _).trans q.2.1⟩
theorem own_tgtJ {x y : Int64} (h : y < x) : ifCond.holds .gt (lcmpW x y) = true ∧ ifCond.holds .le (lcmpW x y) = false := by
  have q := tlt (show 0 < lcmpW x y by rw [lcW]; exact (lc_gt x y).mpr h)
  exact ⟨(if0 _ _).trans q.2.2.1, (if0 _ _).trans q.2.2.2⟩
theorem own_fgtJ {x y : Int64} (h : ¬ y < x) : ifCond.holds .gt (lcmpW x y) = false ∧ ifCond.holds .le (lcmpW x y) = true := by
  have q := flt (show ¬ 0 < lcmpW x y by rw [lcW]; exact fun z => h ((lc_gt x y).mp z))
  exact ⟨(if0 _ _).trans q.2.2.1, (if0 _ _).trans q.2.2.2⟩
theorem own_teqJ {x y : Int64} (h : x = y) : ifCond.holds .eq (lcmpW x y) = true ∧ ifCond.holds .ne (lcmpW x y) = false := by
  have q := teq (show lcmpW x y = 0 by rw [lcW]; exact (lc_eq x y).mpr h)
  exact ⟨(if0 _ _).trans q.1, (if0 _ _).trans q.2⟩
theorem own_feqJ {x y : Int64} (h : ¬ x = y) : ifCond.holds .eq (lcmpW x y) = false ∧ ifCond.holds .ne (lcmpW x y) = true := by
  have q := feq (show ¬ lcmpW x y = 0 by rw [lcW]; exact fun z => h ((lc_eq x y).mp z))
  exact ⟨(if0 _ _).trans q.1, (if0 _ _).trans q.2⟩
def own_sh (k : Int32) (z : Int64) : Int64 := (z.toUInt64 >>> (k &&& 0x3f).toInt64.toUInt64).toInt64
theorem own_sh_bv (k : Int32) (n : Nat) (z : Int64) (h : ((k &&& 0x3f).toInt64.toUInt64.toBitVec % 64).toNat = n) : (own_sh k z).toBitVec = z.toBitVec >>> n := by
  show (z.toUInt64 >>> (k &&& 0x3f).toInt64.toUInt64).toBitVec = _
  rw [UInt64.toBitVec_shiftRight]
  show z.toBitVec >>> ((k &&& 0x3f).toInt64.toUInt64.toBitVec % 64) = _
  rw [BitVec.ushiftRight_eq', h]
theorem own_unx {w : Nat} (y : BitVec w) (k : Nat) (h : w ≤ 3 * k) : (y ^^^ y >>> k) ^^^ (y ^^^ y >>> k) >>> k ^^^ (y ^^^ y >>> k) >>> (2 * k) = y := by
  rw [BitVec.ushiftRight_xor_distrib, BitVec.ushiftRight_xor_distrib, ← BitVec.shiftRight_add, ← BitVec.shiftRight_add]
  have e1 : k + k = 2 * k := by omega
  have e2 : y >>> (k + 2 * k) = BitVec.ofNat w 0 := BitVec.ushiftRight_eq_zero (by omega)
  rw [e1, e2]
  ext i hi
  simp
def own_x1 (k : Int32) (z : Int64) : Int64 := z ^^^ own_sh k z
def own_x2 (k k' : Int32) (z : Int64) : Int64 := z ^^^ own_sh k z ^^^ own_sh k' z
theorem own_x21 (k k' : Int32) (n : Nat) (z : Int64) (h : ((k &&& 0x3f).toInt64.toUInt64.toBitVec % 64).toNat = n) (h' : ((k' &&& 0x3f).toInt64.toUInt64.toBitVec % 64).toNat = 2 * n) (h3 : 64 ≤ 3 * n) : own_x2 k k' (own_x1 k z) = z := by
  apply Int64.toBitVec_inj.mp
  show (own_x1 k z).toBitVec ^^^ (own_sh k (own_x1 k z)).toBitVec ^^^ (own_sh k' (own_x1 k z)).toBitVec = _
  rw [own_sh_bv k n _ h, own_sh_bv k' _ _ h']
  show (z.toBitVec ^^^ (own_sh k z).toBitVec) ^^^ (z.toBitVec ^^^ (own_sh k z).toBitVec) >>> n ^^^ (z.toBitVec ^^^ (own_sh k z).toBitVec) >>> (2 * n) = _
  rw [own_sh_bv k n _ h]
  exact own_unx _ _ h3
def own_mix (z : Int64) : Int64 := own_x1 31 (own_x1 27 (own_x1 30 z * (-4658895280553007687 : Int64)) * (-7723592293110705685 : Int64))
def own_unmix (z : Int64) : Int64 := own_x2 30 60 (own_x2 27 54 (own_x2 31 62 z * (3573116690164977347 : Int64)) * (-7575587736534282103 : Int64))
theorem own_law (z : Int64) : own_unmix (own_mix z) = z := by
  unfold own_unmix own_mix
  rw [own_x21 31 62 31 _ (by decide) (by decide) (by decide), Int64.mul_assoc, show (-7723592293110705685 : Int64) * 3573116690164977347 = 1 by decide, Int64.mul_one]
  rw [own_x21 27 54 27 _ (by decide) (by decide) (by decide), Int64.mul_assoc, show (-4658895280553007687 : Int64) * -7575587736534282103 = 1 by decide, Int64.mul_one]
  rw [own_x21 30 60 30 _ (by decide) (by decide) (by decide)]
theorem own_mix_0 : decode prog_22_method_4_code 0 = .ok (.lload_n 0, 1) := by decide +kernel
theorem own_mix_1 : decode prog_22_method_4_code 1 = .ok (.lload_n 0, 1) := by decide +kernel
theorem own_mix_2 : decode prog_22_method_4_code 2 = .ok (.bipush 30, 2) := by decide +kernel
theorem own_mix_4 : decode prog_22_method_4_code 4 = .ok (.lushr, 1) := by decide +kernel
theorem own_mix_5 : decode prog_22_method_4_code 5 = .ok (.lxor, 1) := by decide +kernel
theorem own_mix_6 : decode prog_22_method_4_code 6 = .ok (.ldc2_w 31, 3) := by decide +kernel
theorem own_mix_9 : decode prog_22_method_4_code 9 = .ok (.lmul, 1) := by decide +kernel
theorem own_mix_10 : decode prog_22_method_4_code 10 = .ok (.lstore_n 0, 1) := by decide +kernel
theorem own_mix_11 : decode prog_22_method_4_code 11 = .ok (.lload_n 0, 1) := by decide +kernel
theorem own_mix_12 : decode prog_22_method_4_code 12 = .ok (.lload_n 0, 1) := by decide +kernel
theorem own_mix_13 : decode prog_22_method_4_code 13 = .ok (.bipush 27, 2) := by decide +kernel
theorem own_mix_15 : decode prog_22_method_4_code 15 = .ok (.lushr, 1) := by decide +kernel
theorem own_mix_16 : decode prog_22_method_4_code 16 = .ok (.lxor, 1) := by decide +kernel
theorem own_mix_17 : decode prog_22_method_4_code 17 = .ok (.ldc2_w 33, 3) := by decide +kernel
theorem own_mix_20 : decode prog_22_method_4_code 20 = .ok (.lmul, 1) := by decide +kernel
theorem own_mix_21 : decode prog_22_method_4_code 21 = .ok (.lstore_n 0, 1) := by decide +kernel
theorem own_mix_22 : decode prog_22_method_4_code 22 = .ok (.lload_n 0, 1) := by decide +kernel
theorem own_mix_23 : decode prog_22_method_4_code 23 = .ok (.lload_n 0, 1) := by decide +kernel
theorem own_mix_24 : decode prog_22_method_4_code 24 = .ok (.bipush 31, 2) := by decide +kernel
theorem own_mix_26 : decode prog_22_method_4_code 26 = .ok (.lushr, 1) := by decide +kernel
theorem own_mix_27 : decode prog_22_method_4_code 27 = .ok (.lxor, 1) := by decide +kernel
theorem own_mix_28 : decode prog_22_method_4_code 28 = .ok (.lreturn, 1) := by decide +kernel
theorem own_f1 : plainName "com/example/shingle/shingle/Hashing" = true := by first | (simp [plainName, overriddenIn]; done) | decide +kernel
theorem own_f2 (m : MethodId) (x0 : Int64) : entryFrame m #[(.long x0)] 2 = mkF m 0 #[.val (.long x0), .second] [] := by first | (simp [entryFrame, mkF, argsToLocals, Value.category]; done) | rfl
set_option maxRecDepth 65536 in
set_option maxHeartbeats 40000000 in
theorem rm_mix (l : Launch) (Z : State) (a0 : Array Value) (hw : ∀ d ∈ tables_1, d.before a0 Z = true) (q : Int64) (h0 : Heap) (n0 : Nat) (Z0 : n0 ≤ h0.size)  :
    own_Met l Z (⟨"com/example/shingle/shingle/Hashing", "mix", "(J)J"⟩ : MethodName) prog_22_method_4_code 2 (some .long) ({ frames := 0, cells := 0, slots := 0, locals := 0 } : Room) #[(.long q)] h0 (fun v h L => v = some (.long (own_mix q)) ∧ L = [] ∧ h = h0) := by
  refine MetFree.of_bodySF (plainFor_of_name own_f1) hisR ?_
  intro p e s m args below meth c s₁ Bd hml0 hP hK
  obtain ⟨rfl, hZ, hh⟩ := hP
  have hx := Bd.exec
  have hby := Bd.bytes
  have hlk : meth.locks = false := Bd.notSynchronized
  have hml : c.maxLocals = 2 := hml0
  have hown : s.vm.findClass "com/example/shingle/shingle/Hashing" = some m.cls := findClass_of_methodNamed Bd.named
  have hnm := (name_of_methodNamed Bd.named Bd.method).1
  have X0 : Stand p l e ({ frames := 0, cells := 0, slots := 0, locals := 0 } : Room) s m #[(.long q)] below meth c s₁ [] 0 0 := Stand.of_body Bd
  have e0 : s₁.heap = h0 := by rw [← hh, Bd.state]; rfl
  show own_Go p e below (own_G s (fun v h L => v = some (.long (own_mix q)) ∧ L = [] ∧ h = h0) 0 0) (s₁.setTop (entryFrame m #[(.long q)] 2))
  rw [own_f2]
  show own_Go p e below _ (s₁.setTop (mkF m 0 #[.val (.long q), .second] []))
  refine own_go (XS.lloadN X0.here hx rfl (hb hby own_mix_0) rfl (Steps.refl _)) ?_
  show own_Go p e below _ (s₁.setTop (mkF m 1 #[.val (.long q), .second] [(.long q)]))
  refine own_go (XS.lloadN X0.here hx rfl (hb hby own_mix_1) rfl (Steps.refl _)) ?_
  show own_Go p e below _ (s₁.setTop (mkF m 2 #[.val (.long q), .second] [(.long q), (.long q)]))
  refine own_go (XS.bipush X0.here hx rfl (hb hby own_mix_2) (Steps.refl _)) ?_
  show own_Go p e below _ (s₁.setTop (mkF m 4 #[.val (.long q), .second] [(.int (30 : Int32)), (.long q), (.long q)]))
  refine own_go (XS.lushr X0.here hx rfl (hb hby own_mix_4) rfl (Steps.refl _)) ?_
  show own_Go p e below _ (s₁.setTop (mkF m 5 #[.val (.long q), .second] [(.long (own_sh (30 : Int32) q)), (.long q)]))
  refine own_go (XS.lxor X0.here hx rfl (hb hby own_mix_5) rfl (Steps.refl _)) ?_
  show own_Go p e below _ (s₁.setTop (mkF m 6 #[.val (.long q), .second] [(.long (own_x1 (30 : Int32) q))]))
  refine own_go (X0.ldc2Long hx hown (mvT hZ (hw _ (List.mem_of_getElem? (i := 4) rfl))) (g := (mkF m 6 #[.val (.long q), .second] [(.long (own_x1 (30 : Int32) q))])) rfl (hb hby own_mix_6) _ (Steps.refl _)) ?_
  show own_Go p e below _ (s₁.setTop (mkF m 9 #[.val (.long q), .second] [(.long (-4658895280553007687 : Int64)), (.long (own_x1 (30 : Int32) q))]))
  refine own_go (XS.lmul X0.here hx rfl (hb hby own_mix_9) rfl (Steps.refl _)) ?_
  show own_Go p e below _ (s₁.setTop (mkF m 10 #[.val (.long q), .second] [(.long ((own_x1 (30 : Int32) q) * (-4658895280553007687 : Int64)))]))
  refine own_go (XS.lstoreN X0.here hx rfl (hb hby own_mix_10) rfl (l' := #[.val (.long ((own_x1 (30 : Int32) q) * (-4658895280553007687 : Int64))), .second]) rfl (Steps.refl _)) ?_
  show own_Go p e below _ (s₁.setTop (mkF m 11 #[.val (.long ((own_x1 (30 : Int32) q) * (-4658895280553007687 : Int64))), .second] []))
  refine own_go (XS.lloadN X0.here hx rfl (hb hby own_mix_11) rfl (Steps.refl _)) ?_
  show own_Go p e below _ (s₁.setTop (mkF m 12 #[.val (.long ((own_x1 (30 : Int32) q) * (-4658895280553007687 : Int64))), .second] [(.long ((own_x1 (30 : Int32) q) * (-4658895280553007687 : Int64)))]))
  refine own_go (XS.lloadN X0.here hx rfl (hb hby own_mix_12) rfl (Steps.refl _)) ?_
  show own_Go p e below _ (s₁.setTop (mkF m 13 #[.val (.long ((own_x1 (30 : Int32) q) * (-4658895280553007687 : Int64))), .second] [(.long ((own_x1 (30 : Int32) q) * (-4658895280553007687 : Int64))), (.long ((own_x1 (30 : Int32) q) * (-4658895280553007687 : Int64)))]))
  refine own_go (XS.bipush X0.here hx rfl (hb hby own_mix_13) (Steps.refl _)) ?_
  show own_Go p e below _ (s₁.setTop (mkF m 15 #[.val (.long ((own_x1 (30 : Int32) q) * (-4658895280553007687 : Int64))), .second] [(.int (27 : Int32)), (.long ((own_x1 (30 : Int32) q) * (-4658895280553007687 : Int64))), (.long ((own_x1 (30 : Int32) q) * (-4658895280553007687 : Int64)))]))
  refine own_go (XS.lushr X0.here hx rfl (hb hby own_mix_15) rfl (Steps.refl _)) ?_
  show own_Go p e below _ (s₁.setTop (mkF m 16 #[.val (.long ((own_x1 (30 : Int32) q) * (-4658895280553007687 : Int64))), .second] [(.long (own_sh (27 : Int32) ((own_x1 (30 : Int32) q) * (-4658895280553007687 : Int64)))), (.long ((own_x1 (30 : Int32) q) * (-4658895280553007687 : Int64)))]))
  refine own_go (XS.lxor X0.here hx rfl (hb hby own_mix_16) rfl (Steps.refl _)) ?_
  show own_Go p e below _ (s₁.setTop (mkF m 17 #[.val (.long ((own_x1 (30 : Int32) q) * (-4658895280553007687 : Int64))), .second] [(.long (own_x1 (27 : Int32) ((own_x1 (30 : Int32) q) * (-4658895280553007687 : Int64))))]))
  refine own_go (X0.ldc2Long hx hown (mvT hZ (hw _ (List.mem_of_getElem? (i := 5) rfl))) (g := (mkF m 17 #[.val (.long ((own_x1 (30 : Int32) q) * (-4658895280553007687 : Int64))), .second] [(.long (own_x1 (27 : Int32) ((own_x1 (30 : Int32) q) * (-4658895280553007687 : Int64))))])) rfl (hb hby own_mix_17) _ (Steps.refl _)) ?_
  show own_Go p e below _ (s₁.setTop (mkF m 20 #[.val (.long ((own_x1 (30 : Int32) q) * (-4658895280553007687 : Int64))), .second] [(.long (-7723592293110705685 : Int64)), (.long (own_x1 (27 : Int32) ((own_x1 (30 : Int32) q) * (-4658895280553007687 : Int64))))]))
  refine own_go (XS.lmul X0.here hx rfl (hb hby own_mix_20) rfl (Steps.refl _)) ?_
  show own_Go p e below _ (s₁.setTop (mkF m 21 #[.val (.long ((own_x1 (30 : Int32) q) * (-4658895280553007687 : Int64))), .second] [(.long ((own_x1 (27 : Int32) ((own_x1 (30 : Int32) q) * (-4658895280553007687 : Int64))) * (-7723592293110705685 : Int64)))]))
  refine own_go (XS.lstoreN X0.here hx rfl (hb hby own_mix_21) rfl (l' := #[.val (.long ((own_x1 (27 : Int32) ((own_x1 (30 : Int32) q) * (-4658895280553007687 : Int64))) * (-7723592293110705685 : Int64))), .second]) rfl (Steps.refl _)) ?_
  show own_Go p e below _ (s₁.setTop (mkF m 22 #[.val (.long ((own_x1 (27 : Int32) ((own_x1 (30 : Int32) q) * (-4658895280553007687 : Int64))) * (-7723592293110705685 : Int64))), .second] []))
  refine own_go (XS.lloadN X0.here hx rfl (hb hby own_mix_22) rfl (Steps.refl _)) ?_
  show own_Go p e below _ (s₁.setTop (mkF m 23 #[.val (.long ((own_x1 (27 : Int32) ((own_x1 (30 : Int32) q) * (-4658895280553007687 : Int64))) * (-7723592293110705685 : Int64))), .second] [(.long ((own_x1 (27 : Int32) ((own_x1 (30 : Int32) q) * (-4658895280553007687 : Int64))) * (-7723592293110705685 : Int64)))]))
  refine own_go (XS.lloadN X0.here hx rfl (hb hby own_mix_23) rfl (Steps.refl _)) ?_
  show own_Go p e below _ (s₁.setTop (mkF m 24 #[.val (.long ((own_x1 (27 : Int32) ((own_x1 (30 : Int32) q) * (-4658895280553007687 : Int64))) * (-7723592293110705685 : Int64))), .second] [(.long ((own_x1 (27 : Int32) ((own_x1 (30 : Int32) q) * (-4658895280553007687 : Int64))) * (-7723592293110705685 : Int64))), (.long ((own_x1 (27 : Int32) ((own_x1 (30 : Int32) q) * (-4658895280553007687 : Int64))) * (-7723592293110705685 : Int64)))]))
  refine own_go (XS.bipush X0.here hx rfl (hb hby own_mix_24) (Steps.refl _)) ?_
  show own_Go p e below _ (s₁.setTop (mkF m 26 #[.val (.long ((own_x1 (27 : Int32) ((own_x1 (30 : Int32) q) * (-4658895280553007687 : Int64))) * (-7723592293110705685 : Int64))), .second] [(.int (31 : Int32)), (.long ((own_x1 (27 : Int32) ((own_x1 (30 : Int32) q) * (-4658895280553007687 : Int64))) * (-7723592293110705685 : Int64))), (.long ((own_x1 (27 : Int32) ((own_x1 (30 : Int32) q) * (-4658895280553007687 : Int64))) * (-7723592293110705685 : Int64)))]))
  refine own_go (XS.lushr X0.here hx rfl (hb hby own_mix_26) rfl (Steps.refl _)) ?_
  show own_Go p e below _ (s₁.setTop (mkF m 27 #[.val (.long ((own_x1 (27 : Int32) ((own_x1 (30 : Int32) q) * (-4658895280553007687 : Int64))) * (-7723592293110705685 : Int64))), .second] [(.long (own_sh (31 : Int32) ((own_x1 (27 : Int32) ((own_x1 (30 : Int32) q) * (-4658895280553007687 : Int64))) * (-7723592293110705685 : Int64)))), (.long ((own_x1 (27 : Int32) ((own_x1 (30 : Int32) q) * (-4658895280553007687 : Int64))) * (-7723592293110705685 : Int64)))]))
  refine own_go (XS.lxor X0.here hx rfl (hb hby own_mix_27) rfl (Steps.refl _)) ?_
  show own_Go p e below _ (s₁.setTop (mkF m 28 #[.val (.long ((own_x1 (27 : Int32) ((own_x1 (30 : Int32) q) * (-4658895280553007687 : Int64))) * (-7723592293110705685 : Int64))), .second] [(.long (own_x1 (31 : Int32) ((own_x1 (27 : Int32) ((own_x1 (30 : Int32) q) * (-4658895280553007687 : Int64))) * (-7723592293110705685 : Int64))))]))
  exact own_retJ X0 hx hlk e0 Bd.returns (hb hby own_mix_28) ⟨rfl, rfl, rfl⟩ (by decide) (by decide)
theorem own_unmix_0 : decode method_2_code 0 = .ok (.lload_n 0, 1) := by decide +kernel
theorem own_unmix_1 : decode method_2_code 1 = .ok (.lload_n 0, 1) := by decide +kernel
theorem own_unmix_2 : decode method_2_code 2 = .ok (.bipush 31, 2) := by decide +kernel
theorem own_unmix_4 : decode method_2_code 4 = .ok (.lushr, 1) := by decide +kernel
theorem own_unmix_5 : decode method_2_code 5 = .ok (.lxor, 1) := by decide +kernel
theorem own_unmix_6 : decode method_2_code 6 = .ok (.lload_n 0, 1) := by decide +kernel
theorem own_unmix_7 : decode method_2_code 7 = .ok (.bipush 62, 2) := by decide +kernel
theorem own_unmix_9 : decode method_2_code 9 = .ok (.lushr, 1) := by decide +kernel
theorem own_unmix_10 : decode method_2_code 10 = .ok (.lxor, 1) := by decide +kernel
theorem own_unmix_11 : decode method_2_code 11 = .ok (.lstore_n 2, 1) := by decide +kernel
theorem own_unmix_12 : decode method_2_code 12 = .ok (.lload_n 2, 1) := by decide +kernel
theorem own_unmix_13 : decode method_2_code 13 = .ok (.ldc2_w 7, 3) := by decide +kernel
theorem own_unmix_16 : decode method_2_code 16 = .ok (.lmul, 1) := by decide +kernel
theorem own_unmix_17 : decode method_2_code 17 = .ok (.lstore 4, 2) := by decide +kernel
theorem own_unmix_19 : decode method_2_code 19 = .ok (.lload 4, 2) := by decide +kernel
theorem own_unmix_21 : decode method_2_code 21 = .ok (.lload 4, 2) := by decide +kernel
theorem own_unmix_23 : decode method_2_code 23 = .ok (.bipush 27, 2) := by decide +kernel
theorem own_unmix_25 : decode method_2_code 25 = .ok (.lushr, 1) := by decide +kernel
theorem own_unmix_26 : decode method_2_code 26 = .ok (.lxor, 1) := by decide +kernel
theorem own_unmix_27 : decode method_2_code 27 = .ok (.lload 4, 2) := by decide +kernel
theorem own_unmix_29 : decode method_2_code 29 = .ok (.bipush 54, 2) := by decide +kernel
theorem own_unmix_31 : decode method_2_code 31 = .ok (.lushr, 1) := by decide +kernel
theorem own_unmix_32 : decode method_2_code 32 = .ok (.lxor, 1) := by decide +kernel
theorem own_unmix_33 : decode method_2_code 33 = .ok (.lstore 6, 2) := by decide +kernel
theorem own_unmix_35 : decode method_2_code 35 = .ok (.lload 6, 2) := by decide +kernel
theorem own_unmix_37 : decode method_2_code 37 = .ok (.ldc2_w 9, 3) := by decide +kernel
theorem own_unmix_40 : decode method_2_code 40 = .ok (.lmul, 1) := by decide +kernel
theorem own_unmix_41 : decode method_2_code 41 = .ok (.lstore 8, 2) := by decide +kernel
theorem own_unmix_43 : decode method_2_code 43 = .ok (.lload 8, 2) := by decide +kernel
theorem own_unmix_45 : decode method_2_code 45 = .ok (.lload 8, 2) := by decide +kernel
theorem own_unmix_47 : decode method_2_code 47 = .ok (.bipush 30, 2) := by decide +kernel
theorem own_unmix_49 : decode method_2_code 49 = .ok (.lushr, 1) := by decide +kernel
theorem own_unmix_50 : decode method_2_code 50 = .ok (.lxor, 1) := by decide +kernel
theorem own_unmix_51 : decode method_2_code 51 = .ok (.lload 8, 2) := by decide +kernel
theorem own_unmix_53 : decode method_2_code 53 = .ok (.bipush 60, 2) := by decide +kernel
theorem own_unmix_55 : decode method_2_code 55 = .ok (.lushr, 1) := by decide +kernel
theorem own_unmix_56 : decode method_2_code 56 = .ok (.lxor, 1) := by decide +kernel
theorem own_unmix_57 : decode method_2_code 57 = .ok (.lreturn, 1) := by decide +kernel
theorem own_f4 : plainName "com/example/shingle/shingle/HashingMixPinLaw" = true := by first | (simp [plainName, overriddenIn]; done) | decide +kernel
theorem own_f5 (m : MethodId) (x0 : Int64) : entryFrame m #[(.long x0)] 10 = mkF m 0 #[.val (.long x0), .second, .unset, .unset, .unset, .unset, .unset, .unset, .unset, .unset] [] := by first | (simp [entryFrame, mkF, argsToLocals, Value.category]; done) | rfl
set_option maxRecDepth 65536 in
set_option maxHeartbeats 40000000 in
theorem rm_unmix (l : Launch) (Z : State) (a0 : Array Value) (hw : ∀ d ∈ tables_1, d.before a0 Z = true) (q : Int64) (h0 : Heap) (n0 : Nat) (Z0 : n0 ≤ h0.size)  :
    own_Met l Z (⟨"com/example/shingle/shingle/HashingMixPinLaw", "unmix", "(J)J"⟩ : MethodName) method_2_code 10 (some .long) ({ frames := 0, cells := 0, slots := 0, locals := 0 } : Room) #[(.long q)] h0 (fun v h L => v = some (.long (own_unmix q)) ∧ L = [] ∧ h = h0) := by
  refine MetFree.of_bodySF (plainFor_of_name own_f4) hisR ?_
  intro p e s m args below meth c s₁ Bd hml0 hP hK
  obtain ⟨rfl, hZ, hh⟩ := hP
  have hx := Bd.exec
  have hby := Bd.bytes
  have hlk : meth.locks = false := Bd.notSynchronized
  have hml : c.maxLocals = 10 := hml0
  have hown : s.vm.findClass "com/example/shingle/shingle/HashingMixPinLaw" = some m.cls := findClass_of_methodNamed Bd.named
  have hnm := (name_of_methodNamed Bd.named Bd.method).1
  have X0 : Stand p l e ({ frames := 0, cells := 0, slots := 0, locals := 0 } : Room) s m #[(.long q)] below meth c s₁ [] 0 0 := Stand.of_body Bd
  have e0 : s₁.heap = h0 := by rw [← hh, Bd.state]; rfl
  show own_Go p e below (own_G s (fun v h L => v = some (.long (own_unmix q)) ∧ L = [] ∧ h = h0) 0 0) (s₁.setTop (entryFrame m #[(.long q)] 10))
  rw [own_f5]
  show own_Go p e below _ (s₁.setTop (mkF m 0 #[.val (.long q), .second, .unset, .unset, .unset, .unset, .unset, .unset, .unset, .unset] []))
  refine own_go (XS.lloadN X0.here hx rfl (hb hby own_unmix_0) rfl (Steps.refl _)) ?_
  show own_Go p e below _ (s₁.setTop (mkF m 1 #[.val (.long q), .second, .unset, .unset, .unset, .unset, .unset, .unset, .unset, .unset] [(.long q)]))
  refine own_go (XS.lloadN X0.here hx rfl (hb hby own_unmix_1) rfl (Steps.refl _)) ?_
  show own_Go p e below _ (s₁.setTop (mkF m 2 #[.val (.long q), .second, .unset, .unset, .unset, .unset, .unset, .unset, .unset, .unset] [(.long q), (.long q)]))
  refine own_go (XS.bipush X0.here hx rfl (hb hby own_unmix_2) (Steps.refl _)) ?_
  show own_Go p e below _ (s₁.setTop (mkF m 4 #[.val (.long q), .second, .unset, .unset, .unset, .unset, .unset, .unset, .unset, .unset] [(.int (31 : Int32)), (.long q), (.long q)]))
  refine own_go (XS.lushr X0.here hx rfl (hb hby own_unmix_4) rfl (Steps.refl _)) ?_
  show own_Go p e below _ (s₁.setTop (mkF m 5 #[.val (.long q), .second, .unset, .unset, .unset, .unset, .unset, .unset, .unset, .unset] [(.long (own_sh (31 : Int32) q)), (.long q)]))
  refine own_go (XS.lxor X0.here hx rfl (hb hby own_unmix_5) rfl (Steps.refl _)) ?_
  show own_Go p e below _ (s₁.setTop (mkF m 6 #[.val (.long q), .second, .unset, .unset, .unset, .unset, .unset, .unset, .unset, .unset] [(.long (own_x1 (31 : Int32) q))]))
  refine own_go (XS.lloadN X0.here hx rfl (hb hby own_unmix_6) rfl (Steps.refl _)) ?_
  show own_Go p e below _ (s₁.setTop (mkF m 7 #[.val (.long q), .second, .unset, .unset, .unset, .unset, .unset, .unset, .unset, .unset] [(.long q), (.long (own_x1 (31 : Int32) q))]))
  refine own_go (XS.bipush X0.here hx rfl (hb hby own_unmix_7) (Steps.refl _)) ?_
  show own_Go p e below _ (s₁.setTop (mkF m 9 #[.val (.long q), .second, .unset, .unset, .unset, .unset, .unset, .unset, .unset, .unset] [(.int (62 : Int32)), (.long q), (.long (own_x1 (31 : Int32) q))]))
  refine own_go (XS.lushr X0.here hx rfl (hb hby own_unmix_9) rfl (Steps.refl _)) ?_
  show own_Go p e below _ (s₁.setTop (mkF m 10 #[.val (.long q), .second, .unset, .unset, .unset, .unset, .unset, .unset, .unset, .unset] [(.long (own_sh (62 : Int32) q)), (.long (own_x1 (31 : Int32) q))]))
  refine own_go (XS.lxor X0.here hx rfl (hb hby own_unmix_10) rfl (Steps.refl _)) ?_
  show own_Go p e below _ (s₁.setTop (mkF m 11 #[.val (.long q), .second, .unset, .unset, .unset, .unset, .unset, .unset, .unset, .unset] [(.long (own_x2 (31 : Int32) (62 : Int32) q))]))
  refine own_go (XS.lstoreN X0.here hx rfl (hb hby own_unmix_11) rfl (l' := #[.val (.long q), .second, .val (.long (own_x2 (31 : Int32) (62 : Int32) q)), .second, .unset, .unset, .unset, .unset, .unset, .unset]) rfl (Steps.refl _)) ?_
  show own_Go p e below _ (s₁.setTop (mkF m 12 #[.val (.long q), .second, .val (.long (own_x2 (31 : Int32) (62 : Int32) q)), .second, .unset, .unset, .unset, .unset, .unset, .unset] []))
  refine own_go (XS.lloadN X0.here hx rfl (hb hby own_unmix_12) rfl (Steps.refl _)) ?_
  show own_Go p e below _ (s₁.setTop (mkF m 13 #[.val (.long q), .second, .val (.long (own_x2 (31 : Int32) (62 : Int32) q)), .second, .unset, .unset, .unset, .unset, .unset, .unset] [(.long (own_x2 (31 : Int32) (62 : Int32) q))]))
  refine own_go (X0.ldc2Long hx hown (mvT hZ (hw _ (List.mem_of_getElem? (i := 10) rfl))) (g := (mkF m 13 #[.val (.long q), .second, .val (.long (own_x2 (31 : Int32) (62 : Int32) q)), .second, .unset, .unset, .unset, .unset, .unset, .unset] [(.long (own_x2 (31 : Int32) (62 : Int32) q))])) rfl (hb hby own_unmix_13) _ (Steps.refl _)) ?_
  show own_Go p e below _ (s₁.setTop (mkF m 16 #[.val (.long q), .second, .val (.long (own_x2 (31 : Int32) (62 : Int32) q)), .second, .unset, .unset, .unset, .unset, .unset, .unset] [(.long (3573116690164977347 : Int64)), (.long (own_x2 (31 : Int32) (62 : Int32) q))]))
  refine own_go (XS.lmul X0.here hx rfl (hb hby own_unmix_16) rfl (Steps.refl _)) ?_
  show own_Go p e below _ (s₁.setTop (mkF m 17 #[.val (.long q), .second, .val (.long (own_x2 (31 : Int32) (62 : Int32) q)), .second, .unset, .unset, .unset, .unset, .unset, .unset] [(.long ((own_x2 (31 : Int32) (62 : Int32) q) * (3573116690164977347 : Int64)))]))
  refine own_go (XS.lstore X0.here hx rfl (hb hby own_unmix_17) rfl (l' := #[.val (.long q), .second, .val (.long (own_x2 (31 : Int32) (62 : Int32) q)), .second, .val (.long ((own_x2 (31 : Int32) (62 : Int32) q) * (3573116690164977347 : Int64))), .second, .unset, .unset, .unset, .unset]) rfl (Steps.refl _)) ?_
  show own_Go p e below _ (s₁.setTop (mkF m 19 #[.val (.long q), .second, .val (.long (own_x2 (31 : Int32) (62 : Int32) q)), .second, .val (.long ((own_x2 (31 : Int32) (62 : Int32) q) * (3573116690164977347 : Int64))), .second, .unset, .unset, .unset, .unset] []))
  refine own_go (XS.lload X0.here hx rfl (hb hby own_unmix_19) rfl (Steps.refl _)) ?_
  show own_Go p e below _ (s₁.setTop (mkF m 21 #[.val (.long q), .second, .val (.long (own_x2 (31 : Int32) (62 : Int32) q)), .second, .val (.long ((own_x2 (31 : Int32) (62 : Int32) q) * (3573116690164977347 : Int64))), .second, .unset, .unset, .unset, .unset] [(.long ((own_x2 (31 : Int32) (62 : Int32) q) * (3573116690164977347 : Int64)))]))
  refine own_go (XS.lload X0.here hx rfl (hb hby own_unmix_21) rfl (Steps.refl _)) ?_
  show own_Go p e below _ (s₁.setTop (mkF m 23 #[.val (.long q), .second, .val (.long (own_x2 (31 : Int32) (62 : Int32) q)), .second, .val (.long ((own_x2 (31 : Int32) (62 : Int32) q) * (3573116690164977347 : Int64))), .second, .unset, .unset, .unset, .unset] [(.long ((own_x2 (31 : Int32) (62 : Int32) q) * (3573116690164977347 : Int64))), (.long ((own_x2 (31 : Int32) (62 : Int32) q) * (3573116690164977347 : Int64)))]))
  refine own_go (XS.bipush X0.here hx rfl (hb hby own_unmix_23) (Steps.refl _)) ?_
  show own_Go p e below _ (s₁.setTop (mkF m 25 #[.val (.long q), .second, .val (.long (own_x2 (31 : Int32) (62 : Int32) q)), .second, .val (.long ((own_x2 (31 : Int32) (62 : Int32) q) * (3573116690164977347 : Int64))), .second, .unset, .unset, .unset, .unset] [(.int (27 : Int32)), (.long ((own_x2 (31 : Int32) (62 : Int32) q) * (3573116690164977347 : Int64))), (.long ((own_x2 (31 : Int32) (62 : Int32) q) * (3573116690164977347 : Int64)))]))
  refine own_go (XS.lushr X0.here hx rfl (hb hby own_unmix_25) rfl (Steps.refl _)) ?_
  show own_Go p e below _ (s₁.setTop (mkF m 26 #[.val (.long q), .second, .val (.long (own_x2 (31 : Int32) (62 : Int32) q)), .second, .val (.long ((own_x2 (31 : Int32) (62 : Int32) q) * (3573116690164977347 : Int64))), .second, .unset, .unset, .unset, .unset] [(.long (own_sh (27 : Int32) ((own_x2 (31 : Int32) (62 : Int32) q) * (3573116690164977347 : Int64)))), (.long ((own_x2 (31 : Int32) (62 : Int32) q) * (3573116690164977347 : Int64)))]))
  refine own_go (XS.lxor X0.here hx rfl (hb hby own_unmix_26) rfl (Steps.refl _)) ?_
  show own_Go p e below _ (s₁.setTop (mkF m 27 #[.val (.long q), .second, .val (.long (own_x2 (31 : Int32) (62 : Int32) q)), .second, .val (.long ((own_x2 (31 : Int32) (62 : Int32) q) * (3573116690164977347 : Int64))), .second, .unset, .unset, .unset, .unset] [(.long (own_x1 (27 : Int32) ((own_x2 (31 : Int32) (62 : Int32) q) * (3573116690164977347 : Int64))))]))
  refine own_go (XS.lload X0.here hx rfl (hb hby own_unmix_27) rfl (Steps.refl _)) ?_
  show own_Go p e below _ (s₁.setTop (mkF m 29 #[.val (.long q), .second, .val (.long (own_x2 (31 : Int32) (62 : Int32) q)), .second, .val (.long ((own_x2 (31 : Int32) (62 : Int32) q) * (3573116690164977347 : Int64))), .second, .unset, .unset, .unset, .unset] [(.long ((own_x2 (31 : Int32) (62 : Int32) q) * (3573116690164977347 : Int64))), (.long (own_x1 (27 : Int32) ((own_x2 (31 : Int32) (62 : Int32) q) * (3573116690164977347 : Int64))))]))
  refine own_go (XS.bipush X0.here hx rfl (hb hby own_unmix_29) (Steps.refl _)) ?_
  show own_Go p e below _ (s₁.setTop (mkF m 31 #[.val (.long q), .second, .val (.long (own_x2 (31 : Int32) (62 : Int32) q)), .second, .val (.long ((own_x2 (31 : Int32) (62 : Int32) q) * (3573116690164977347 : Int64))), .second, .unset, .unset, .unset, .unset] [(.int (54 : Int32)), (.long ((own_x2 (31 : Int32) (62 : Int32) q) * (3573116690164977347 : Int64))), (.long (own_x1 (27 : Int32) ((own_x2 (31 : Int32) (62 : Int32) q) * (3573116690164977347 : Int64))))]))
  refine own_go (XS.lushr X0.here hx rfl (hb hby own_unmix_31) rfl (Steps.refl _)) ?_
  show own_Go p e below _ (s₁.setTop (mkF m 32 #[.val (.long q), .second, .val (.long (own_x2 (31 : Int32) (62 : Int32) q)), .second, .val (.long ((own_x2 (31 : Int32) (62 : Int32) q) * (3573116690164977347 : Int64))), .second, .unset, .unset, .unset, .unset] [(.long (own_sh (54 : Int32) ((own_x2 (31 : Int32) (62 : Int32) q) * (3573116690164977347 : Int64)))), (.long (own_x1 (27 : Int32) ((own_x2 (31 : Int32) (62 : Int32) q) * (3573116690164977347 : Int64))))]))
  refine own_go (XS.lxor X0.here hx rfl (hb hby own_unmix_32) rfl (Steps.refl _)) ?_
  show own_Go p e below _ (s₁.setTop (mkF m 33 #[.val (.long q), .second, .val (.long (own_x2 (31 : Int32) (62 : Int32) q)), .second, .val (.long ((own_x2 (31 : Int32) (62 : Int32) q) * (3573116690164977347 : Int64))), .second, .unset, .unset, .unset, .unset] [(.long (own_x2 (27 : Int32) (54 : Int32) ((own_x2 (31 : Int32) (62 : Int32) q) * (3573116690164977347 : Int64))))]))
  refine own_go (XS.lstore X0.here hx rfl (hb hby own_unmix_33) rfl (l' := #[.val (.long q), .second, .val (.long (own_x2 (31 : Int32) (62 : Int32) q)), .second, .val (.long ((own_x2 (31 : Int32) (62 : Int32) q) * (3573116690164977347 : Int64))), .second, .val (.long (own_x2 (27 : Int32) (54 : Int32) ((own_x2 (31 : Int32) (62 : Int32) q) * (3573116690164977347 : Int64)))), .second, .unset, .unset]) rfl (Steps.refl _)) ?_
  show own_Go p e below _ (s₁.setTop (mkF m 35 #[.val (.long q), .second, .val (.long (own_x2 (31 : Int32) (62 : Int32) q)), .second, .val (.long ((own_x2 (31 : Int32) (62 : Int32) q) * (3573116690164977347 : Int64))), .second, .val (.long (own_x2 (27 : Int32) (54 : Int32) ((own_x2 (31 : Int32) (62 : Int32) q) * (3573116690164977347 : Int64)))), .second, .unset, .unset] []))
  refine own_go (XS.lload X0.here hx rfl (hb hby own_unmix_35) rfl (Steps.refl _)) ?_
  show own_Go p e below _ (s₁.setTop (mkF m 37 #[.val (.long q), .second, .val (.long (own_x2 (31 : Int32) (62 : Int32) q)), .second, .val (.long ((own_x2 (31 : Int32) (62 : Int32) q) * (3573116690164977347 : Int64))), .second, .val (.long (own_x2 (27 : Int32) (54 : Int32) ((own_x2 (31 : Int32) (62 : Int32) q) * (3573116690164977347 : Int64)))), .second, .unset, .unset] [(.long (own_x2 (27 : Int32) (54 : Int32) ((own_x2 (31 : Int32) (62 : Int32) q) * (3573116690164977347 : Int64))))]))
  refine own_go (X0.ldc2Long hx hown (mvT hZ (hw _ (List.mem_of_getElem? (i := 11) rfl))) (g := (mkF m 37 #[.val (.long q), .second, .val (.long (own_x2 (31 : Int32) (62 : Int32) q)), .second, .val (.long ((own_x2 (31 : Int32) (62 : Int32) q) * (3573116690164977347 : Int64))), .second, .val (.long (own_x2 (27 : Int32) (54 : Int32) ((own_x2 (31 : Int32) (62 : Int32) q) * (3573116690164977347 : Int64)))), .second, .unset, .unset] [(.long (own_x2 (27 : Int32) (54 : Int32) ((own_x2 (31 : Int32) (62 : Int32) q) * (3573116690164977347 : Int64))))])) rfl (hb hby own_unmix_37) _ (Steps.refl _)) ?_
  show own_Go p e below _ (s₁.setTop (mkF m 40 #[.val (.long q), .second, .val (.long (own_x2 (31 : Int32) (62 : Int32) q)), .second, .val (.long ((own_x2 (31 : Int32) (62 : Int32) q) * (3573116690164977347 : Int64))), .second, .val (.long (own_x2 (27 : Int32) (54 : Int32) ((own_x2 (31 : Int32) (62 : Int32) q) * (3573116690164977347 : Int64)))), .second, .unset, .unset] [(.long (-7575587736534282103 : Int64)), (.long (own_x2 (27 : Int32) (54 : Int32) ((own_x2 (31 : Int32) (62 : Int32) q) * (3573116690164977347 : Int64))))]))
  refine own_go (XS.lmul X0.here hx rfl (hb hby own_unmix_40) rfl (Steps.refl _)) ?_
  show own_Go p e below _ (s₁.setTop (mkF m 41 #[.val (.long q), .second, .val (.long (own_x2 (31 : Int32) (62 : Int32) q)), .second, .val (.long ((own_x2 (31 : Int32) (62 : Int32) q) * (3573116690164977347 : Int64))), .second, .val (.long (own_x2 (27 : Int32) (54 : Int32) ((own_x2 (31 : Int32) (62 : Int32) q) * (3573116690164977347 : Int64)))), .second, .unset, .unset] [(.long ((own_x2 (27 : Int32) (54 : Int32) ((own_x2 (31 : Int32) (62 : Int32) q) * (3573116690164977347 : Int64))) * (-7575587736534282103 : Int64)))]))
  refine own_go (XS.lstore X0.here hx rfl (hb hby own_unmix_41) rfl (l' := #[.val (.long q), .second, .val (.long (own_x2 (31 : Int32) (62 : Int32) q)), .second, .val (.long ((own_x2 (31 : Int32) (62 : Int32) q) * (3573116690164977347 : Int64))), .second, .val (.long (own_x2 (27 : Int32) (54 : Int32) ((own_x2 (31 : Int32) (62 : Int32) q) * (3573116690164977347 : Int64)))), .second, .val (.long ((own_x2 (27 : Int32) (54 : Int32) ((own_x2 (31 : Int32) (62 : Int32) q) * (3573116690164977347 : Int64))) * (-7575587736534282103 : Int64))), .second]) rfl (Steps.refl _)) ?_
  show own_Go p e below _ (s₁.setTop (mkF m 43 #[.val (.long q), .second, .val (.long (own_x2 (31 : Int32) (62 : Int32) q)), .second, .val (.long ((own_x2 (31 : Int32) (62 : Int32) q) * (3573116690164977347 : Int64))), .second, .val (.long (own_x2 (27 : Int32) (54 : Int32) ((own_x2 (31 : Int32) (62 : Int32) q) * (3573116690164977347 : Int64)))), .second, .val (.long ((own_x2 (27 : Int32) (54 : Int32) ((own_x2 (31 : Int32) (62 : Int32) q) * (3573116690164977347 : Int64))) * (-7575587736534282103 : Int64))), .second] []))
  refine own_go (XS.lload X0.here hx rfl (hb hby own_unmix_43) rfl (Steps.refl _)) ?_
  show own_Go p e below _ (s₁.setTop (mkF m 45 #[.val (.long q), .second, .val (.long (own_x2 (31 : Int32) (62 : Int32) q)), .second, .val (.long ((own_x2 (31 : Int32) (62 : Int32) q) * (3573116690164977347 : Int64))), .second, .val (.long (own_x2 (27 : Int32) (54 : Int32) ((own_x2 (31 : Int32) (62 : Int32) q) * (3573116690164977347 : Int64)))), .second, .val (.long ((own_x2 (27 : Int32) (54 : Int32) ((own_x2 (31 : Int32) (62 : Int32) q) * (3573116690164977347 : Int64))) * (-7575587736534282103 : Int64))), .second] [(.long ((own_x2 (27 : Int32) (54 : Int32) ((own_x2 (31 : Int32) (62 : Int32) q) * (3573116690164977347 : Int64))) * (-7575587736534282103 : Int64)))]))
  refine own_go (XS.lload X0.here hx rfl (hb hby own_unmix_45) rfl (Steps.refl _)) ?_
  show own_Go p e below _ (s₁.setTop (mkF m 47 #[.val (.long q), .second, .val (.long (own_x2 (31 : Int32) (62 : Int32) q)), .second, .val (.long ((own_x2 (31 : Int32) (62 : Int32) q) * (3573116690164977347 : Int64))), .second, .val (.long (own_x2 (27 : Int32) (54 : Int32) ((own_x2 (31 : Int32) (62 : Int32) q) * (3573116690164977347 : Int64)))), .second, .val (.long ((own_x2 (27 : Int32) (54 : Int32) ((own_x2 (31 : Int32) (62 : Int32) q) * (3573116690164977347 : Int64))) * (-7575587736534282103 : Int64))), .second] [(.long ((own_x2 (27 : Int32) (54 : Int32) ((own_x2 (31 : Int32) (62 : Int32) q) * (3573116690164977347 : Int64))) * (-7575587736534282103 : Int64))), (.long ((own_x2 (27 : Int32) (54 : Int32) ((own_x2 (31 : Int32) (62 : Int32) q) * (3573116690164977347 : Int64))) * (-7575587736534282103 : Int64)))]))
  refine own_go (XS.bipush X0.here hx rfl (hb hby own_unmix_47) (Steps.refl _)) ?_
  show own_Go p e below _ (s₁.setTop (mkF m 49 #[.val (.long q), .second, .val (.long (own_x2 (31 : Int32) (62 : Int32) q)), .second, .val (.long ((own_x2 (31 : Int32) (62 : Int32) q) * (3573116690164977347 : Int64))), .second, .val (.long (own_x2 (27 : Int32) (54 : Int32) ((own_x2 (31 : Int32) (62 : Int32) q) * (3573116690164977347 : Int64)))), .second, .val (.long ((own_x2 (27 : Int32) (54 : Int32) ((own_x2 (31 : Int32) (62 : Int32) q) * (3573116690164977347 : Int64))) * (-7575587736534282103 : Int64))), .second] [(.int (30 : Int32)), (.long ((own_x2 (27 : Int32) (54 : Int32) ((own_x2 (31 : Int32) (62 : Int32) q) * (3573116690164977347 : Int64))) * (-7575587736534282103 : Int64))), (.long ((own_x2 (27 : Int32) (54 : Int32) ((own_x2 (31 : Int32) (62 : Int32) q) * (3573116690164977347 : Int64))) * (-7575587736534282103 : Int64)))]))
  refine own_go (XS.lushr X0.here hx rfl (hb hby own_unmix_49) rfl (Steps.refl _)) ?_
  show own_Go p e below _ (s₁.setTop (mkF m 50 #[.val (.long q), .second, .val (.long (own_x2 (31 : Int32) (62 : Int32) q)), .second, .val (.long ((own_x2 (31 : Int32) (62 : Int32) q) * (3573116690164977347 : Int64))), .second, .val (.long (own_x2 (27 : Int32) (54 : Int32) ((own_x2 (31 : Int32) (62 : Int32) q) * (3573116690164977347 : Int64)))), .second, .val (.long ((own_x2 (27 : Int32) (54 : Int32) ((own_x2 (31 : Int32) (62 : Int32) q) * (3573116690164977347 : Int64))) * (-7575587736534282103 : Int64))), .second] [(.long (own_sh (30 : Int32) ((own_x2 (27 : Int32) (54 : Int32) ((own_x2 (31 : Int32) (62 : Int32) q) * (3573116690164977347 : Int64))) * (-7575587736534282103 : Int64)))), (.long ((own_x2 (27 : Int32) (54 : Int32) ((own_x2 (31 : Int32) (62 : Int32) q) * (3573116690164977347 : Int64))) * (-7575587736534282103 : Int64)))]))
  refine own_go (XS.lxor X0.here hx rfl (hb hby own_unmix_50) rfl (Steps.refl _)) ?_
  show own_Go p e below _ (s₁.setTop (mkF m 51 #[.val (.long q), .second, .val (.long (own_x2 (31 : Int32) (62 : Int32) q)), .second, .val (.long ((own_x2 (31 : Int32) (62 : Int32) q) * (3573116690164977347 : Int64))), .second, .val (.long (own_x2 (27 : Int32) (54 : Int32) ((own_x2 (31 : Int32) (62 : Int32) q) * (3573116690164977347 : Int64)))), .second, .val (.long ((own_x2 (27 : Int32) (54 : Int32) ((own_x2 (31 : Int32) (62 : Int32) q) * (3573116690164977347 : Int64))) * (-7575587736534282103 : Int64))), .second] [(.long (own_x1 (30 : Int32) ((own_x2 (27 : Int32) (54 : Int32) ((own_x2 (31 : Int32) (62 : Int32) q) * (3573116690164977347 : Int64))) * (-7575587736534282103 : Int64))))]))
  refine own_go (XS.lload X0.here hx rfl (hb hby own_unmix_51) rfl (Steps.refl _)) ?_
  show own_Go p e below _ (s₁.setTop (mkF m 53 #[.val (.long q), .second, .val (.long (own_x2 (31 : Int32) (62 : Int32) q)), .second, .val (.long ((own_x2 (31 : Int32) (62 : Int32) q) * (3573116690164977347 : Int64))), .second, .val (.long (own_x2 (27 : Int32) (54 : Int32) ((own_x2 (31 : Int32) (62 : Int32) q) * (3573116690164977347 : Int64)))), .second, .val (.long ((own_x2 (27 : Int32) (54 : Int32) ((own_x2 (31 : Int32) (62 : Int32) q) * (3573116690164977347 : Int64))) * (-7575587736534282103 : Int64))), .second] [(.long ((own_x2 (27 : Int32) (54 : Int32) ((own_x2 (31 : Int32) (62 : Int32) q) * (3573116690164977347 : Int64))) * (-7575587736534282103 : Int64))), (.long (own_x1 (30 : Int32) ((own_x2 (27 : Int32) (54 : Int32) ((own_x2 (31 : Int32) (62 : Int32) q) * (3573116690164977347 : Int64))) * (-7575587736534282103 : Int64))))]))
  refine own_go (XS.bipush X0.here hx rfl (hb hby own_unmix_53) (Steps.refl _)) ?_
  show own_Go p e below _ (s₁.setTop (mkF m 55 #[.val (.long q), .second, .val (.long (own_x2 (31 : Int32) (62 : Int32) q)), .second, .val (.long ((own_x2 (31 : Int32) (62 : Int32) q) * (3573116690164977347 : Int64))), .second, .val (.long (own_x2 (27 : Int32) (54 : Int32) ((own_x2 (31 : Int32) (62 : Int32) q) * (3573116690164977347 : Int64)))), .second, .val (.long ((own_x2 (27 : Int32) (54 : Int32) ((own_x2 (31 : Int32) (62 : Int32) q) * (3573116690164977347 : Int64))) * (-7575587736534282103 : Int64))), .second] [(.int (60 : Int32)), (.long ((own_x2 (27 : Int32) (54 : Int32) ((own_x2 (31 : Int32) (62 : Int32) q) * (3573116690164977347 : Int64))) * (-7575587736534282103 : Int64))), (.long (own_x1 (30 : Int32) ((own_x2 (27 : Int32) (54 : Int32) ((own_x2 (31 : Int32) (62 : Int32) q) * (3573116690164977347 : Int64))) * (-7575587736534282103 : Int64))))]))
  refine own_go (XS.lushr X0.here hx rfl (hb hby own_unmix_55) rfl (Steps.refl _)) ?_
  show own_Go p e below _ (s₁.setTop (mkF m 56 #[.val (.long q), .second, .val (.long (own_x2 (31 : Int32) (62 : Int32) q)), .second, .val (.long ((own_x2 (31 : Int32) (62 : Int32) q) * (3573116690164977347 : Int64))), .second, .val (.long (own_x2 (27 : Int32) (54 : Int32) ((own_x2 (31 : Int32) (62 : Int32) q) * (3573116690164977347 : Int64)))), .second, .val (.long ((own_x2 (27 : Int32) (54 : Int32) ((own_x2 (31 : Int32) (62 : Int32) q) * (3573116690164977347 : Int64))) * (-7575587736534282103 : Int64))), .second] [(.long (own_sh (60 : Int32) ((own_x2 (27 : Int32) (54 : Int32) ((own_x2 (31 : Int32) (62 : Int32) q) * (3573116690164977347 : Int64))) * (-7575587736534282103 : Int64)))), (.long (own_x1 (30 : Int32) ((own_x2 (27 : Int32) (54 : Int32) ((own_x2 (31 : Int32) (62 : Int32) q) * (3573116690164977347 : Int64))) * (-7575587736534282103 : Int64))))]))
  refine own_go (XS.lxor X0.here hx rfl (hb hby own_unmix_56) rfl (Steps.refl _)) ?_
  show own_Go p e below _ (s₁.setTop (mkF m 57 #[.val (.long q), .second, .val (.long (own_x2 (31 : Int32) (62 : Int32) q)), .second, .val (.long ((own_x2 (31 : Int32) (62 : Int32) q) * (3573116690164977347 : Int64))), .second, .val (.long (own_x2 (27 : Int32) (54 : Int32) ((own_x2 (31 : Int32) (62 : Int32) q) * (3573116690164977347 : Int64)))), .second, .val (.long ((own_x2 (27 : Int32) (54 : Int32) ((own_x2 (31 : Int32) (62 : Int32) q) * (3573116690164977347 : Int64))) * (-7575587736534282103 : Int64))), .second] [(.long (own_x2 (30 : Int32) (60 : Int32) ((own_x2 (27 : Int32) (54 : Int32) ((own_x2 (31 : Int32) (62 : Int32) q) * (3573116690164977347 : Int64))) * (-7575587736534282103 : Int64))))]))
  exact own_retJ X0 hx hlk e0 Bd.returns (hb hby own_unmix_57) ⟨rfl, rfl, rfl⟩ (by decide) (by decide)
theorem own_f6 : parseMethodDescriptor "(J)J" = some ⟨[.long], some .long⟩ := by decide +kernel
theorem own_f7 (m : MethodId) (x0 : Int64) : entryFrame m #[(.long x0)] maxLocals = mkF m 0 #[.val (.long x0), .second] [] := by first | (simp [entryFrame, mkF, argsToLocals, Value.category, maxLocals]; done) | rfl
set_option maxRecDepth 65536 in
set_option maxHeartbeats 40000000 in
theorem rm_law (l : Launch) (Z : State) (a0 : Array Value) (hw : ∀ d ∈ tables_1, d.before a0 Z = true) (q : Int64) (h0 : Heap) (n0 : Nat) (Z0 : n0 ≤ h0.size)  :
    own_MetL l Z (#[(.long q)]) h0 (fun v h L => v = some (.int 1) ∧ Fr n0 L) := by
  refine MetFree.of_bodySF (plainFor_of_name own_f4) hisR ?_
  intro p e s m args below meth c s₁ Bd hml0 hP hK
  obtain ⟨rfl, hZ, hh⟩ := hP
  have hx := Bd.exec
  have hby := Bd.bytes
  have hlk : meth.locks = false := Bd.notSynchronized
  have hml : c.maxLocals = 2 := hml0
  have hown : s.vm.findClass "com/example/shingle/shingle/HashingMixPinLaw" = some m.cls := findClass_of_methodNamed Bd.named
  have hnm := (name_of_methodNamed Bd.named Bd.method).1
  have X0 : Stand p l e room_1 s m #[(.long q)] below meth c s₁ [] 0 0 := Stand.of_body Bd
  have e0 : s₁.heap = h0 := by rw [← hh, Bd.state]; rfl
  show own_Go p e below (own_G s (fun v h L => v = some (.int 1) ∧ Fr n0 L) room_1.cells room_1.slots) (s₁.setTop (entryFrame m #[(.long q)] maxLocals))
  rw [own_f7]
  show own_Go p e below _ (s₁.setTop (mkF m 0 #[.val (.long q), .second] []))
  refine own_go (XS.lloadN X0.here hx rfl (hb hby at_0) rfl (Steps.refl _)) ?_
  show own_Go p e below _ (s₁.setTop (mkF m 1 #[.val (.long q), .second] [(.long q)]))
  obtain ⟨_, _, ⟨T1, L1, k1, n1⟩, -, X1, ⟨Lc1, hQ1, l1, y1, z1⟩, st1⟩ := Jvm.LawKit.callS X0 hx (y := (⟨"com/example/shingle/shingle/Hashing", "mix", "(J)J"⟩ : MethodName)) hown (mvT hZ (hw _ (List.mem_of_getElem? (i := 0) rfl))) (mvT hZ (hw _ (List.mem_of_getElem? (i := 1) rfl))) (mvT hZ (hw _ (List.mem_of_getElem? (i := 2) rfl))) (mvT hZ (hw _ (List.mem_of_getElem? (i := 3) rfl))) (by decide) (own_pays (W := 0) (rm_mix l Z a0 hw q h0 n0 Z0) hZ (hw _ (List.mem_of_getElem? (i := 3) rfl)) (hw _ (List.mem_of_getElem? (i := 2) rfl)) (by decide) (by decide)) (g := (mkF m 1 #[.val (.long q), .second] [(.long q)])) rfl (by rw [hml]; rfl) (argsL := [(.long q)]) (rest := []) (lenOf own_f6 rfl) rfl (by show 2 * 0 + _ ≤ _; exact Nat.le_of_eq rfl) (hb hby at_1) (fun _ _ => ⟨rfl, e0, (by decide : 0 + 0 ≤ _), (by decide : 0 + 0 ≤ _)⟩)
  dsimp only [Pt.U, Pt.locs, Pt.cells, Pt.slots] at X1 l1 y1 z1 st1 hQ1
  subst l1 y1 z1
  obtain ⟨rfl, rfl, e1⟩ := hQ1
  try rw [List.append_nil] at X1
  refine own_go (st1 _ (Steps.refl _)) ?_
  show own_Go p e below _ (T1.setTop (mkF m 4 #[.val (.long q), .second] [(.long (own_mix q))]))
  obtain ⟨_, _, ⟨T2, L2, k2, n2⟩, -, X2, ⟨Lc2, hQ2, l2, y2, z2⟩, st2⟩ := Jvm.LawKit.callS X1 hx (y := (⟨"com/example/shingle/shingle/HashingMixPinLaw", "unmix", "(J)J"⟩ : MethodName)) hown (mvT hZ (hw _ (List.mem_of_getElem? (i := 6) rfl))) (mvT hZ (hw _ (List.mem_of_getElem? (i := 7) rfl))) (mvT hZ (hw _ (List.mem_of_getElem? (i := 8) rfl))) (mvT hZ (hw _ (List.mem_of_getElem? (i := 9) rfl))) (by decide) (own_pays (W := 0) (rm_unmix l Z a0 hw (own_mix q) h0 n0 Z0) hZ (hw _ (List.mem_of_getElem? (i := 9) rfl)) (hw _ (List.mem_of_getElem? (i := 8) rfl)) (by decide) (by decide)) (g := (mkF m 4 #[.val (.long q), .second] [(.long (own_mix q))])) rfl (by rw [hml]; rfl) (argsL := [(.long (own_mix q))]) (rest := []) (lenOf own_f6 rfl) rfl (by show 2 * 0 + _ ≤ _; exact Nat.le_of_eq rfl) (hb hby at_4) (fun _ _ => ⟨rfl, e1, (by decide : 0 + 0 ≤ _), (by decide : 0 + 0 ≤ _)⟩)
  dsimp only [Pt.U, Pt.locs, Pt.cells, Pt.slots] at X2 l2 y2 z2 st2 hQ2
  subst l2 y2 z2
  obtain ⟨rfl, rfl, e2⟩ := hQ2
  try rw [List.append_nil] at X2
  refine own_go (st2 _ (Steps.refl _)) ?_
  show own_Go p e below _ (T2.setTop (mkF m 7 #[.val (.long q), .second] [(.long (own_unmix (own_mix q)))]))
  refine own_go (XS.lloadN X2.here hx rfl (hb hby at_7) rfl (Steps.refl _)) ?_
  show own_Go p e below _ (T2.setTop (mkF m 8 #[.val (.long q), .second] [(.long q), (.long (own_unmix (own_mix q)))]))
  refine own_go (XS.lcmp X2.here hx rfl (hb hby at_8) rfl (Steps.refl _)) ?_
  show own_Go p e below _ (T2.setTop (mkF m 9 #[.val (.long q), .second] [(.int (lcmpW (own_unmix (own_mix q)) q))]))
  refine own_go (XS.ifNo X2.here hx rfl (hb hby at_9) rfl (own_teqJ (own_law q)).2 (Steps.refl _)) ?_
  show own_Go p e below _ (T2.setTop (mkF m 12 #[.val (.long q), .second] []))
  refine own_go (XS.iconst X2.here hx rfl (hb hby at_12) (Steps.refl _)) ?_
  show own_Go p e below _ (T2.setTop (mkF m 13 #[.val (.long q), .second] [(.int (1 : Int32))]))
  refine own_go (XS.goto X2.here hx rfl (pc0 := 13) (pc' := 17) rfl (hb hby at_13) (by decide) (by decide) (Steps.refl _)) ?_
  show own_Go p e below _ (T2.setTop (mkF m 17 #[.val (.long q), .second] [(.int (1 : Int32))]))
  exact own_retZ X2 hx hlk e2 Bd.returns (hb hby at_17) (Or.inr rfl) ⟨rfl, Fr.nil n0⟩ (by decide) (by decide)
set_option maxRecDepth 65536 in
set_option maxHeartbeats 40000000 in
theorem comes_1 {Post : Tables → Env → Array Value → State → Outcome → State → Prop} (hpost : ∀ tb e args s v u, (limb_1_1.after args s (.returned v) u = true ∧ limb_1_2.after args s (.returned v) u = true ∧ True) → FrameEnd s (.returned v) u (Jvm.fieldLocs frame_1_writes args s ++ Jvm.arrayLocs frame_1_arrays args s ++ Jvm.staticLocs frame_1_statics s) 0 0 → Post tb e args s (.returned v) u) :
    ArmFor flags0 classFile x code maxLocals ret World_1 tables_1 room_1 Calls_1 rest_1 Pre_1 Post := by
  intro l hfl _ _ p e ha hc hk s m args below hf hA hF happ hP
  obtain ⟨hcalls, hrest, hpre⟩ := hP
  obtain ⟨-, -, -, hnamed, -, -, -, hat⟩ := (Spec.applies_iff hf).mp happ
  obtain ⟨hg, hn⟩ := and_e (Cond.before_iff.mp (show (Jvm.Cond.and given_1 narrow_1).before args s = true from hpre))
  obtain ⟨gc, ga0⟩ := and_e hg
  obtain ⟨w0, rfl⟩ : ∃ w0 : Value, args = #[w0] := by
    have hs : args.size = 1 := by simpa [Cond.value, given_1] using gc
    obtain ⟨L⟩ := args
    match L, hs with
    | [w0], _ => exact ⟨w0, rfl⟩
  have hw := fun d (hd : d ∈ tables_1) => atoms_spec (ws := Jvm.Cond.code x code maxLocals ret :: tables_1) hat d (List.mem_cons_of_mem _ hd)
  obtain ⟨i0, ei0⟩ := isL_v ga0
  obtain rfl : w0 = (.long i0) := Option.some.inj ei0
  obtain ⟨n, o, h1, h2, h3, _, L, rfl, ⟨rfl, N⟩, hq⟩ := rm_law l s _ hw i0 s.heap s.heap.size (Nat.le_refl _) p e ha hc hk s m _ below hf ((Spec.applies_iff_loose hf).mp happ).1 ⟨rfl, State.Warmed39.refl s, rfl⟩ trivial
  exact ⟨n, _, h1, h2, h3, hpost _ _ _ _ _ _ ⟨Cond.after_iff.mpr rfl, Cond.after_iff.mpr (eq_i res_at (Term.int_eval (1)) rfl), trivial⟩ ⟨hq.1, hq.2.1, (hq.2.2.sift fun y hy => Or.inr (N y hy)).mono (by decide) (by decide)⟩⟩
theorem main_1_1 : Claimed_1_1 := comes_1 fun _ _ _ _ _ _ h hF => ⟨h.1, hF⟩
theorem main_1_2 : Claimed_1_2 := comes_1 fun _ _ _ _ _ _ h hF => ⟨h.2.1, hF⟩
end Jvm.Pilot.@@N@@
namespace Jvm.Pilot.@@N@@
open Jvm Jvm.ClassFile Sem Op Lib Jvm.Free Jvm.Stand Jvm.Pilot.@@N@@.Jvm.D
/-! MADE BY PROGRAM (witnessworld.py) out of the Statement's table words and the real class files: 9 classes; the members and pool entries that the words name. The judged class is class 1, her method 2. -/
namespace start1
open Jvm.ClassFile
def u (s : String) : CpInfo := .utf8 (stringToUtf16 s)
/-- a pool by its gaps: so many unusable entries, then the entry; so many at the end -/
def gap : Nat → List CpInfo → List CpInfo
  | 0, r => r
  | n + 1, r => .unusable :: gap n r
def poolList (es : List (Nat × CpInfo)) (last : Nat) : List CpInfo := es.foldr (fun e r => gap e.1 (e.2 :: r)) (gap last [])
def pool (es : List (Nat × CpInfo)) (last : Nat) : Array CpInfo := ⟨poolList es last⟩
def fileOf (pool : Array CpInfo) (this : Nat) (attrs : Array Attribute := #[]) (ms : Array MethodInfo := #[]) (fl : Nat := 33) (sup : Nat := 0) (ifs : Array Nat := #[]) (fds : Array FieldInfo := #[]) : ClassFile where
  minorVersion := 0
  majorVersion := 65
  constantPool := pool
  accessFlags := fl
  thisClass := this
  superClass := sup
  interfaces := ifs
  fields := fds
  methods := ms
  attributes := attrs
def plain (name : String) (sup : Option ClassId) : Class where
  name := name
  kind := .ordinary
  loader := none
  accessFlags := 33
  super := sup
  interfaces := #[]
  cf := none
  fields := #[]
  methods := #[]
  instanceTypes := #[]
  staticTypes := #[]
  resolved := #[]
  callSites := []
  init := .initialized
  statics := none
  mirror := none

def pool0 : Array CpInfo := pool [(5, u "<init>"), (0, u "()V"), (1, .class_ 10), (1, u "java/lang/Object")] 113

def k0m0 : Method := { name := "<init>", desc := "()V", sig := { parameters := [], returnType := none }, accessFlags := 1, code := none }
/-- java/lang/Object -/
def k0 : Class := { plain "java/lang/Object" none with
  accessFlags := 33
  interfaces := #[]
  cf := some (fileOf pool0 8 #[] #[{ accessFlags := 1, nameIndex := 5, descriptorIndex := 6, attributes := #[] }] 33 0 #[] #[])
  fields := #[]
  methods := #[k0m0]
  instanceTypes := #[]
  staticTypes := #[]
  resolved := Array.replicate 124 none
  statics := none }

def pool1 : Array CpInfo := pool [(2, .class_ 4), (1, u "java/lang/Object"), (0, u "<init>"), (0, u "()V"), (0, .long 3573116690164977347), (1, .long 10871156337175269513), (1, .methodref 12 13), (0, .class_ 14), (0, .nameAndType 15 16), (0, u "com/example/shingle/shingle/Hashing"), (0, u "mix"), (0, u "(J)J"), (0, .methodref 18 19), (0, .class_ 20), (0, .nameAndType 21 16), (0, u "com/example/shingle/shingle/HashingMixPinLaw"), (0, u "unmix"), (2, u "law"), (0, u "(J)Z")] 3

def k1m0 : Method := { name := "<init>", desc := "()V", sig := { parameters := [], returnType := none }, accessFlags := 2, code := none }
def k1c1 : Code := { maxStack := 5, maxLocals := 10, code := method_2_code, exceptionTable := #[], attributes := #[] }
def k1m1 : Method := { name := "unmix", desc := "(J)J", sig := { parameters := [.long], returnType := some .long }, accessFlags := 10, code := some k1c1 }
def k1c2 : Code := { maxStack := 4, maxLocals := 2, code := code, exceptionTable := #[], attributes := #[] }
def k1m2 : Method := { name := "law", desc := "(J)Z", sig := { parameters := [.long], returnType := some .boolean }, accessFlags := 9, code := some k1c2 }
/-- com/example/shingle/shingle/HashingMixPinLaw -/
def k1 : Class := { plain "com/example/shingle/shingle/HashingMixPinLaw" (some 0) with
  accessFlags := 49
  interfaces := #[]
  cf := some (fileOf pool1 18 #[] #[{ accessFlags := 2, nameIndex := 5, descriptorIndex := 6, attributes := #[] }, { accessFlags := 10, nameIndex := 21, descriptorIndex := 16, attributes := #[] }, { accessFlags := 9, nameIndex := 24, descriptorIndex := 25, attributes := #[] }] 49 2 #[] #[])
  fields := #[]
  methods := #[k1m0, k1m1, k1m2]
  instanceTypes := #[]
  staticTypes := #[]
  resolved := Array.replicate 29 none
  statics := none }

def pool2 : Array CpInfo := pool [(2, .class_ 4), (1, u "java/lang/Object"), (0, u "<init>"), (0, u "()V"), (7, .class_ 16), (1, u "com/example/shingle/shingle/Hashing"), (12, u "mix"), (0, u "(J)J"), (0, .long 13787848793156543929), (1, .long 10723151780598845931), (1, u "FNV_OFFSET_BASIS"), (0, u "J"), (1, u "FNV_PRIME")] 6

def k2m0 : Method := { name := "<init>", desc := "()V", sig := { parameters := [], returnType := none }, accessFlags := 2, code := none }
def k2c1 : Code := { maxStack := 5, maxLocals := 2, code := prog_22_method_4_code, exceptionTable := #[], attributes := #[] }
def k2m1 : Method := { name := "mix", desc := "(J)J", sig := { parameters := [.long], returnType := some .long }, accessFlags := 8, code := some k2c1 }
/-- com/example/shingle/shingle/Hashing -/
def k2 : Class := { plain "com/example/shingle/shingle/Hashing" (some 0) with
  accessFlags := 48
  interfaces := #[]
  cf := some (fileOf pool2 14 #[] #[{ accessFlags := 2, nameIndex := 5, descriptorIndex := 6, attributes := #[] }, { accessFlags := 8, nameIndex := 29, descriptorIndex := 30, attributes := #[] }] 48 2 #[] #[{ accessFlags := 26, nameIndex := 35, descriptorIndex := 36, attributes := #[] }, { accessFlags := 26, nameIndex := 38, descriptorIndex := 36, attributes := #[] }])
  fields := #[{ name := "FNV_OFFSET_BASIS", type := .long, accessFlags := 26, slot := 0, constantValue := 0 }, { name := "FNV_PRIME", type := .long, accessFlags := 26, slot := 1, constantValue := 0 }]
  methods := #[k2m0, k2m1]
  instanceTypes := #[]
  staticTypes := #[.long, .long]
  resolved := Array.replicate 45 none
  statics := none }

def pool3 : Array CpInfo := pool [(1, u "java/lang/Cloneable"), (0, .class_ 1), (0, u "java/lang/Object"), (0, .class_ 3)] 3

/-- java/lang/Cloneable -/
def k3 : Class := { plain "java/lang/Cloneable" (some 0) with
  accessFlags := 1537
  interfaces := #[]
  cf := some (fileOf pool3 2 #[] #[] 1537 4 #[] #[])
  fields := #[]
  methods := #[]
  instanceTypes := #[]
  staticTypes := #[]
  resolved := Array.replicate 8 none
  statics := none }

def pool4 : Array CpInfo := pool [(1, u "java/io/Serializable"), (0, .class_ 1), (0, u "java/lang/Object"), (0, .class_ 3)] 3

/-- java/io/Serializable -/
def k4 : Class := { plain "java/io/Serializable" (some 0) with
  accessFlags := 1537
  interfaces := #[]
  cf := some (fileOf pool4 2 #[] #[] 1537 4 #[] #[])
  fields := #[]
  methods := #[]
  instanceTypes := #[]
  staticTypes := #[]
  resolved := Array.replicate 8 none
  statics := none }

/-- the primitive byte -/
def k5 : Class := { plain "byte" none with kind := .primitive 'B', accessFlags := 0x411 }
/-- [B -/
def k6 : Class := { plain "[B" (some 0) with kind := .array 5 .byte, interfaces := #[3, 4], accessFlags := 1041 }

/-- the primitive int -/
def k7 : Class := { plain "int" none with kind := .primitive 'I', accessFlags := 0x411 }
/-- [I -/
def k8 : Class := { plain "[I" (some 0) with kind := .array 7 .int, interfaces := #[3, 4], accessFlags := 1041 }

def heap : Heap := #[]
def classes : Array Class := #[k0, k1, k2, k3, k4, k5, k6, k7, k8]
def interned : List (Array UInt16 × Addr) := []
def slotsUsed : Nat := 0
def theMethod : MethodId := ⟨1, 2⟩
def args0 : Array Value := #[.long 5]
def aboutOver (below : List Frame) : State where
  vm := { classes := classes, interned := interned.toArray }
  heap := heap
  slotsUsed := slotsUsed
  threads := #[{ frames := .invoking theMethod args0 :: below }]
def below0 : List Frame := [.native { method := ⟨0, 0⟩, args := #[] }]
def about1 : State := aboutOver below0
def p0 : Program := .bare "" "" ""
def e0 : Env := launch0.env 0 0 0
theorem w_frames : about1.frames = Frame.invoking theMethod args0 :: below0 := rfl
set_option maxRecDepth 65536 in
theorem w_args : argsFit about1.vm theMethod args0 = true := by decide +kernel
set_option maxRecDepth 65536 in
theorem w_heap : heapFits about1 = true := by decide +kernel
set_option maxRecDepth 65536 in
theorem w_runnable : about1.curStatus? = some .runnable := by decide +kernel
set_option maxRecDepth 65536 in
theorem w_alone : about1.alone = true := by decide +kernel
set_option maxRecDepth 65536 in
theorem w_named : about1.methodNamed? x = some theMethod := by decide +kernel
set_option maxRecDepth 65536 in
theorem w_hears : about1.hears theMethod below0 = true := by decide +kernel
set_option maxRecDepth 65536 in
theorem w_ripe : about1.ripe theMethod args0 below0 = true := by decide +kernel
theorem w_running : about1.status = .running := rfl
set_option maxRecDepth 65536 in
theorem w_room : about1.hasRoom e0.platform room_1 = true :=
  launch0.hasRoom_least _ room_1 (by decide +kernel) (by decide +kernel) (by decide +kernel) (by decide +kernel) (by decide +kernel) (by decide +kernel)
theorem allAtoms_all (ts : List Jvm.Cond) (a : Array Jvm.Value) (st : Jvm.State) : (allAtoms ts).before a st = ts.all (fun c => c.before a st) := by
  induction ts with
  | nil => rfl
  | cons c t ih =>
    show (Jvm.Cond.and c (allAtoms t)).before a st = _
    rw [Jvm.Cond.before_and, ih, List.all_cons]
def words1 : List Jvm.Cond := Jvm.Cond.code x code maxLocals ret :: tables_1
/-- a 'code' word, met by the world's own term for the bytes: nothing is compared byte by byte -/
theorem code_word {y : MethodName} {bytes : ByteArray} {mx : Nat} {rt : Option FieldType} {a : Array Value} {s : State} {m : MethodId} {meth : Method} {c : Code} (h1 : s.methodNamed? y = some m) (h2 : s.vm.method? m = some meth) (h3 : meth.code = some c) (h4 : c.code = bytes)
    (h5 : (c.maxLocals == mx && c.exceptionTable.isEmpty && decide (c.maxStack ≤ mostOperands) && decide (meth.sig.returnType = rt) && !meth.locks && decide (parseMethodDescriptor y.desc = some meth.sig)) = true) : (Jvm.Cond.code y bytes mx rt).before a s = true := by
  simp only [Bool.and_eq_true, beq_iff_eq, Bool.not_eq_true', decide_eq_true_eq] at h5
  obtain ⟨⟨⟨⟨⟨g1, g2⟩, g3⟩, g4⟩, g5⟩, g6⟩ := h5
  simp [Cond.before, Cond.holds, Cond.value, h1, h2, h3, h4, g1, g2, g3, g4, g5, g6]
def isCode : Jvm.Cond → Bool
  | .code _ _ _ _ => true
  | _ => false
theorem all_split {L : List Jvm.Cond} {P : Jvm.Cond → Bool} (h1 : L.all (fun c => isCode c || P c) = true) (h2 : ∀ c ∈ L.filter isCode, P c = true) : L.all P = true := by
  refine List.all_eq_true.mpr fun c hc => ?_
  have h := List.all_eq_true.mp h1 c hc
  rcases Bool.eq_false_or_eq_true (isCode c) with hi | hi
  · exact h2 c (List.mem_filter.mpr ⟨hc, hi⟩)
  · simpa [hi] using h
set_option maxRecDepth 65536 in
theorem w_c0 : (Jvm.Cond.code x code maxLocals ret).before args0 about1 = true := code_word (m := ⟨1, 2⟩) (meth := k1m2) (c := k1c2) (by decide +kernel) rfl rfl rfl (by decide +kernel)
set_option maxRecDepth 65536 in
theorem w_c1 : (Jvm.Cond.code ({ cls := "com/example/shingle/shingle/Hashing", name := "mix", desc := "(J)J" } : Jvm.MethodName) prog_22_method_4_code (2 : Nat) (Option.some Jvm.ClassFile.FieldType.long)).before args0 about1 = true := code_word (m := ⟨2, 1⟩) (meth := k2m1) (c := k2c1) (by decide +kernel) rfl rfl rfl (by decide +kernel)
set_option maxRecDepth 65536 in
theorem w_c2 : (Jvm.Cond.code ({ cls := "com/example/shingle/shingle/HashingMixPinLaw", name := "unmix", desc := "(J)J" } : Jvm.MethodName) method_2_code (10 : Nat) (Option.some Jvm.ClassFile.FieldType.long)).before args0 about1 = true := code_word (m := ⟨1, 1⟩) (meth := k1m1) (c := k1c1) (by decide +kernel) rfl rfl rfl (by decide +kernel)
def codes1 : List Jvm.Cond := [Jvm.Cond.code x code maxLocals ret, Jvm.Cond.code ({ cls := "com/example/shingle/shingle/Hashing", name := "mix", desc := "(J)J" } : Jvm.MethodName) prog_22_method_4_code (2 : Nat) (Option.some Jvm.ClassFile.FieldType.long), Jvm.Cond.code ({ cls := "com/example/shingle/shingle/HashingMixPinLaw", name := "unmix", desc := "(J)J" } : Jvm.MethodName) method_2_code (10 : Nat) (Option.some Jvm.ClassFile.FieldType.long)]
set_option maxRecDepth 65536 in
theorem codes_eq : words1.filter isCode = codes1 := rfl
theorem w_codes : ∀ c ∈ words1.filter isCode, c.before args0 about1 = true := by
  rw [codes_eq]
  intro c hc
  simp only [codes1, List.mem_cons, List.not_mem_nil, or_false] at hc
  rcases hc with rfl | rfl | rfl
  · exact w_c0
  · exact w_c1
  · exact w_c2
set_option maxRecDepth 65536 in
theorem w_t1 : words1.all (fun c => isCode c || c.before args0 about1) = true := by decide +kernel
theorem w_tables : (allAtoms (Jvm.Cond.code x code maxLocals ret :: tables_1)).before args0 about1 = true := by
  rw [allAtoms_all]
  show words1.all (fun c => c.before args0 about1) = true
  refine all_split ?_ w_codes
  rw [w_t1]
set_option maxRecDepth 65536 in
theorem w_case : (Jvm.Cond.and given_1 narrow_1).before args0 about1 = true := by decide +kernel
theorem w_applies : (headSpec (Jvm.Cond.code x code maxLocals ret :: tables_1) room_1).applies x e0.platform about1 = true :=
  (Spec.applies_iff w_frames).mpr ⟨w_running, w_runnable, w_alone, w_named, w_hears, w_ripe, w_room, w_tables⟩
theorem atStart : AtStart classFile x code maxLocals ret World_1 tables_1 room_1 Calls_1 rest_1 Pre_1 launch0 p0 e0 about1 theMethod args0 below0 :=
  ⟨lists_1, trivial, launch0.admits_env _ _ _, launch0.least_env, fairChoices_fair.cas, fairChoices_fair.clock, w_frames, w_args, w_heap, w_applies, trivial, trivial, w_case⟩
end start1
theorem witness_1 : WitnessClaimed_1 := ⟨start1.p0, start1.e0, start1.about1, start1.theMethod, start1.args0, start1.below0, start1.atStart⟩
end Jvm.Pilot.@@N@@
