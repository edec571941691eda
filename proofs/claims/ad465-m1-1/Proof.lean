import JvmDerived
import JvmDerived.Pilot.@@N@@Statement
import JvmDerived.Pilot.@@N@@Code
set_option linter.unusedVariables false
set_option linter.unusedSimpArgs false
@@BLOCK:NumsL.lean.txt@@
namespace Jvm.Pilot.@@N@@
open Jvm Jvm.ClassFile Sem Op Lib Jvm.Free Jvm.Stand Jvm.LawKit Jvm.RoadKit Bundle Jvm.Pilot.@@N@@.Jvm.D
def own_Go (p : Program) (e : Env) (below : List Frame) (G : Outcome → State → Prop) (t : State) : Prop :=
  ∃ s₂ o, Steps p.tables e below t s₂ ∧ s₂.status = .running ∧ Ended s₂ below o ∧ G o s₂
def own_G (s : State) (Q : Option Value → Heap → List Loc → Prop) (C S : Nat) (o : Outcome) (U : State) : Prop :=
  ∃ v L, o = .returned v ∧ Q v U.heap L ∧ FrameEnd s o U L C S
def own_Met (l : Launch) (Z : State) (y : MethodName) (bytes : ByteArray) (maxL : Nat) (rt : Option FieldType) (rm : Room) (as : Array Value) (h : Heap) (Q : Option Value → Heap → List Loc → Prop) : Prop :=
  MetFree l y (head1 [Jvm.Cond.code y bytes maxL rt] rm) (fun a U => a = as ∧ Z.Warmed39 U.vm ∧ U.heap = h) (fun _ _ _ _ _ => True) (fun _ U o U' => ∃ v L, o = .returned v ∧ Q v U'.heap L ∧ FrameEnd U o U' L rm.cells rm.slots)
def own_MetL (l : Launch) (Z : State) (as : Array Value) (h : Heap) (Q : Option Value → Heap → List Loc → Prop) : Prop :=
  MetFree l x (head1 (Jvm.Cond.code x code maxLocals ret :: tables_1) room_1) (fun a U => a = as ∧ Z.Warmed39 U.vm ∧ U.heap = h) (fun _ _ _ _ _ => True) (fun _ U o U' => ∃ v L, o = .returned v ∧ Q v U'.heap L ∧ FrameEnd U o U' L room_1.cells room_1.slots)
theorem own_pays {l : Launch} {Z : State} {p : Program} {e : Env} {R : Room} {s : State} {args : Array Value} {below : List Frame} {a0 : Array Value} {h : Heap} {y : MethodName} {bytes : ByteArray} {maxL : Nat} {rt : Option FieldType} {rm : Room} {len W : Nat} {as' : Array Value} {Q : Option Value → Heap → List Loc → Prop}
    (hM : own_Met l Z y bytes maxL rt rm as' h Q) (hZ : Z.Warmed39 s.vm) (wc : (Jvm.Cond.code y bytes maxL rt).before a0 Z = true) (wz : (Jvm.Cond.initialized y.cls).before a0 Z = true) (hf : rm.frames + 1 ≤ R.frames) (hl : W + (maxL + 11) + rm.locals ≤ R.locals) :
    Back l R p e below s args y len W (fun A a => a = as' ∧ A.U.heap = h ∧ A.cells + rm.cells ≤ R.cells ∧ A.slots + rm.slots ≤ R.slots)
      (fun A _ v B => ∃ L, Q v B.U.heap L ∧ B.locs = A.locs ++ L ∧ B.cells = A.cells + rm.cells ∧ B.slots = A.slots + rm.slots) :=
  backOf hM hZ wc wz hf hl
section OwnSteps
variable {p : Program} {l : Launch} {e : Env} {R : Room} {s : State} {m : MethodId} {args : Array Value} {below : List Frame} {meth : Method} {c : Code} {T : State} {locs : List Loc} {cells slots : Nat} {h : Heap} {G : Outcome → State → Prop} {t t' : State} {Q : Option Value → Heap → List Loc → Prop} {C S pc : Nat} {Ls : Array Slot} {rest : List Value}
theorem own_go (k : Steps p.tables e below t t') (r : own_Go p e below G t') : own_Go p e below G t := by
  obtain ⟨s₂, o, h1, h2⟩ := r
  exact ⟨s₂, o, k.trans h1, h2⟩
theorem own_ret (X : Stand p l e R s m args below meth c T locs cells slots) (hx : p.tables.exec = Jvm.exec) (hlk : meth.locks = false) (eT : T.heap = h) {w : Value} {ty : FieldType} {i : Instr} (hret : meth.sig.returnType = some ty) (hn : narrow ty w = w)
    (hi : (i = .ireturn ∧ (ty = .int ∨ ty = .boolean ∨ ty = .byte ∨ ty = .char ∨ ty = .short) ∧ ∃ z, w = .int z) ∨ (i = .lreturn ∧ ty = .long ∧ ∃ z, w = .long z) ∨ (i = .dreturn ∧ ty = .double ∧ ∃ z, w = .double z) ∨ (i = .freturn ∧ ty = .float ∧ ∃ z, w = .float z) ∨ (i = .areturn ∧ ty.isReference = true ∧ w.isRef = true))
    (hd : decode c.code pc = .ok (i, 1)) (hQ : Q (some w) h locs) (hc : cells ≤ C) (hs : slots ≤ S) : own_Go p e below (own_G s Q C S) (T.setTop (mkF m pc Ls (w :: rest))) := by
  obtain ⟨fs, hr, hrun, hended, hW, hsame⟩ := X.leave (v := some w) (fun q => by rw [hret] at q; cases q)
  exact ⟨_, _, retOut X hx hret hn hi hd hr, hrun, hended, _, _, rfl, by show Q _ T.heap _; rw [eT]; exact hQ, ⟨_, rfl⟩, hW, hsame.mono hc hs⟩
theorem own_retI (X : Stand p l e R s m args below meth c T locs cells slots) (hx : p.tables.exec = Jvm.exec) (hlk : meth.locks = false) (eT : T.heap = h) {z : Int32} (hret : meth.sig.returnType = some .int) (hd : decode c.code pc = .ok (.ireturn, 1)) (hQ : Q (some (.int z)) h locs) (hc : cells ≤ C) (hs : slots ≤ S) : own_Go p e below (own_G s Q C S) (T.setTop (mkF m pc Ls (.int z :: rest))) :=
  own_ret X hx hlk eT hret rfl (Or.inl ⟨rfl, Or.inl rfl, z, rfl⟩) hd hQ hc hs
theorem own_retZ (X : Stand p l e R s m args below meth c T locs cells slots) (hx : p.tables.exec = Jvm.exec) (hlk : meth.locks = false) (eT : T.heap = h) {z : Int32} (hret : meth.sig.returnType = some .boolean) (hd : decode c.code pc = .ok (.ireturn, 1)) (hz : z = 0 ∨ z = 1) (hQ : Q (some (.int z)) h locs) (hc : cells ≤ C) (hs : slots ≤ S) : own_Go p e below (own_G s Q C S) (T.setTop (mkF m pc Ls (.int z :: rest))) :=
  own_ret X hx hlk eT hret (by rcases hz with rfl | rfl <;> rfl) (Or.inl ⟨rfl, Or.inr (Or.inl rfl), z, rfl⟩) hd hQ hc hs
theorem own_retJ (X : Stand p l e R s m args below meth c T locs cells slots) (hx : p.tables.exec = Jvm.exec) (hlk : meth.locks = false) (eT : T.heap = h) {z : Int64} (hret : meth.sig.returnType = some .long) (hd : decode c.code pc = .ok (.lreturn, 1)) (hQ : Q (some (.long z)) h locs) (hc : cells ≤ C) (hs : slots ≤ S) : own_Go p e below (own_G s Q C S) (T.setTop (mkF m pc Ls (.long z :: rest))) :=
  own_ret X hx hlk eT hret rfl (Or.inr (Or.inl ⟨rfl, rfl, z, rfl⟩)) hd hQ hc hs
theorem own_retA (X : Stand p l e R s m args below meth c T locs cells slots) (hx : p.tables.exec = Jvm.exec) (hlk : meth.locks = false) (eT : T.heap = h) {a : Addr} {ty : FieldType} (hret : meth.sig.returnType = some ty) (ht : ty.isReference = true) (hd : decode c.code pc = .ok (.areturn, 1)) (hQ : Q (some (.ref a)) h locs) (hc : cells ≤ C) (hs : slots ≤ S) : own_Go p e below (own_G s Q C S) (T.setTop (mkF m pc Ls (.ref a :: rest))) :=
  own_ret X hx hlk eT hret (by cases ty <;> first | rfl | cases ht) (Or.inr (Or.inr (Or.inr (Or.inr ⟨rfl, ht, rfl⟩)))) hd hQ hc hs
theorem own_retV (X : Stand p l e R s m args below meth c T locs cells slots) (hx : p.tables.exec = Jvm.exec) (hlk : meth.locks = false) (eT : T.heap = h) (hret : meth.sig.returnType = none) (hd : decode c.code pc = .ok (.return_, 1)) (hQ : Q none h locs) (hc : cells ≤ C) (hs : slots ≤ S) : own_Go p e below (own_G s Q C S) (T.setTop (mkF m pc Ls [])) := by
  obtain ⟨fs, hr, hrun, hended, hW, hsame⟩ := X.leave (v := none) (fun _ => rfl)
  exact ⟨_, _, X.returnOut hx hret hd hr, hrun, hended, _, _, rfl, by show Q _ T.heap _; rw [eT]; exact hQ, ⟨_, rfl⟩, hW, hsame.mono hc hs⟩
end OwnSteps
def own_b (P : Prop) [Decidable P] : Int32 := if P then 1 else 0
theorem own_b_t {P : Prop} [Decidable P] (h : P) : own_b P = 1 := if_pos h
theorem own_b_f {P : Prop} [Decidable P] (h : ¬ P) : own_b P = 0 := if_neg h
theorem own_b_nz {P : Prop} [Decidable P] (h : P) : ¬ own_b P = 0 := by rw [own_b_t h]; decide
theorem own_b_01 (P : Prop) [Decidable P] : own_b P = 0 ∨ own_b P = 1 := by
  by_cases h : P
  · exact Or.inr (own_b_t h)
  · exact Or.inl (own_b_f h)
theorem own_tltJ {x y : Int64} (h : x < y) : ifCond.holds .lt (lcmpW x y) = true ∧ ifCond.holds .ge (lcmpW x y) = false := by
  have q := tlt (show lcmpW x y < 0 by rw [lcW]; exact (lc_lt x y).mpr h)
  exact ⟨(if0 _ _).trans q.1, (if0 _ _).trans q.2.1⟩
theorem own_fltJ {x y : Int64} (h : ¬ x < y) : ifCond.holds .lt (lcmpW x y) = false ∧ ifCond.holds .ge (lcmpW x y) = true := by
  have q := flt (show ¬ lcmpW x y < 0 by rw [lcW]; exact fun z => h ((lc_lt x y).mp z))
  exact ⟨(if0 _ _).trans q.1, (if0 _ _).trans q.2.1⟩
theorem own_tgtJ {x y : Int64} (h : y < x) : ifCond.holds .gt (lcmpW x y) = true ∧ ifCond.holds .le (lcmpW x y) = false := by
  have q := tlt (show 0 < lcmpW x y by rw [lcW]; exact (lc_gt x y).mpr h)
  exact ⟨(if0 _ _).trans q.2.2.1, (if0 _ _).trans q.2.2.2⟩
theorem own_fgtJ {x y : Int64} (h : ¬ y < x) : ifCond.holds .gt (lcmpW x y) = false ∧ ifCond.holds .le (lcmpW x y) = true := by
  have q := flt (show ¬ 0 < lcmpW x y by rw [lcW]; exact fun z => h ((lc_gt x y).mp z))
  exact ⟨(if0 _ _).trans q.2.2.1, (if0 _ _).trans q.2.2.2⟩
theorem own_teqJ {x y : Int64} (h : x = y) : ifCond.holds .eq (lcmpW x y) = true ∧ ifCond.holds .ne (lcmpW x y) = false := by
  have q := teq (show lcmpW x y = 0 by rw [lcW]; exact (lc_eq x y).mpr h)
  exact ⟨(if0 _ _).trans q.1, (if0 _ _).trans q.2⟩
theorem own_feqJ {x y : Int64} (h : ¬ x = y) : ifCond.holds .eq (lcmpW x y) = false ∧ ifCond.holds .ne (lcmpW x y) = true := by
  have q := feq (show ¬ lcmpW x y = 0 by rw [lcW]; exact fun z => h ((lc_eq x y).mp z))
  exact ⟨(if0 _ _).trans q.1, (if0 _ _).trans q.2⟩
def own_can (o n m : Int32) : Int32 := own_b ((m = (0 : Int32) ∨ (n % (8 : Int32)) = (0 : Int32)) ∧ ¬ (65535 : Int32) < (o + n))
theorem own_bounds (x : Int32) : 0 ≤ (x &&& (1073741823 : Int32)).toInt ∧ (x &&& (1073741823 : Int32)).toInt < 1073741824 := by
  have e := Jvm.Kit.i32_mask x 1073741823 (k := 30) (by decide) (by decide)
  rw [e]; omega
theorem own_fit (o n : Int32) (ho : 0 ≤ o.toInt ∧ o.toInt < 1073741824) (hn : 0 ≤ n.toInt ∧ n.toInt < 1073741824) : ((65535 : Int32) < (o + n)) ↔ (((65535 : Int32) - o) < n) := by
  have e1 : (o + n).toInt = o.toInt + n.toInt := Jvm.Kit.i32_add (by omega) (by omega)
  have e3 : (65535 : Int32).toInt = 65535 := by decide
  have e2 : ((65535 : Int32) - o).toInt = 65535 - o.toInt := by rw [Jvm.Kit.i32_sub (by omega) (by omega), e3]
  rw [Int32.lt_iff_toInt_lt, Int32.lt_iff_toInt_lt, e1, e2, e3]; omega
theorem own_whole (n : Int32) (hn : 0 ≤ n.toInt ∧ n.toInt < 1073741824) : ((n % (8 : Int32)) = (0 : Int32)) ↔ (((n / (8 : Int32)) * (8 : Int32)) = n) := by
  have e8 : (8 : Int32).toInt = 8 := by decide
  have e1 : (n % (8 : Int32)).toInt = n.toInt % 8 := by rw [Jvm.Kit.i32_rem_nonneg hn.1, e8]
  have e2 : (n / (8 : Int32)).toInt = n.toInt / 8 := by rw [Jvm.Kit.i32_div (by omega), e8, Int.tdiv_eq_ediv_of_nonneg hn.1]
  have e3 : ((n / (8 : Int32)) * (8 : Int32)).toInt = n.toInt / 8 * 8 := by rw [Jvm.Kit.i32_mul (by rw [e2, e8]; omega) (by rw [e2, e8]; omega), e2, e8]
  rw [← Int32.toInt_inj, ← Int32.toInt_inj, e1, e3]
  have : (0 : Int32).toInt = 0 := by decide
  omega
theorem own_canBelong_0 : decode prog_12_method_2_code 0 = .ok (.iload_n 2, 1) := by decide +kernel
theorem own_canBelong_1 : decode prog_12_method_2_code 1 = .ok (.ifCond .eq 10, 3) := by decide +kernel
theorem own_canBelong_4 : decode prog_12_method_2_code 4 = .ok (.iload_n 1, 1) := by decide +kernel
theorem own_canBelong_5 : decode prog_12_method_2_code 5 = .ok (.bipush 8, 2) := by decide +kernel
theorem own_canBelong_7 : decode prog_12_method_2_code 7 = .ok (.irem, 1) := by decide +kernel
theorem own_canBelong_8 : decode prog_12_method_2_code 8 = .ok (.ifCond .ne 15, 3) := by decide +kernel
theorem own_canBelong_11 : decode prog_12_method_2_code 11 = .ok (.iload_n 0, 1) := by decide +kernel
theorem own_canBelong_12 : decode prog_12_method_2_code 12 = .ok (.iload_n 1, 1) := by decide +kernel
theorem own_canBelong_13 : decode prog_12_method_2_code 13 = .ok (.iadd, 1) := by decide +kernel
theorem own_canBelong_14 : decode prog_12_method_2_code 14 = .ok (.ldc 41, 2) := by decide +kernel
theorem own_canBelong_16 : decode prog_12_method_2_code 16 = .ok (.if_icmp .gt 7, 3) := by decide +kernel
theorem own_canBelong_19 : decode prog_12_method_2_code 19 = .ok (.iconst 1, 1) := by decide +kernel
theorem own_canBelong_20 : decode prog_12_method_2_code 20 = .ok (.goto 4, 3) := by decide +kernel
theorem own_canBelong_23 : decode prog_12_method_2_code 23 = .ok (.iconst 0, 1) := by decide +kernel
theorem own_canBelong_24 : decode prog_12_method_2_code 24 = .ok (.ireturn, 1) := by decide +kernel
theorem own_f1 : plainName "com/example/shirase/shirase/capture/FragmentedPacket" = true := by first | (simp [plainName, overriddenIn]; done) | decide +kernel
theorem own_f2 (m : MethodId) (x0 : Int32) (x1 : Int32) (x2 : Int32) : entryFrame m #[(.int x0), (.int x1), (.int x2)] 3 = mkF m 0 #[.val (.int x0), .val (.int x1), .val (.int x2)] [] := by first | (simp [entryFrame, mkF, argsToLocals, Value.category]; done) | rfl
set_option maxRecDepth 65536 in
set_option maxHeartbeats 40000000 in
theorem rm_can (l : Launch) (Z : State) (a0 : Array Value) (hw : ∀ d ∈ tables_1, d.before a0 Z = true) (o n m' : Int32) (h0 : Heap) (n0 : Nat) (Z0 : n0 ≤ h0.size)  :
    own_Met l Z (⟨"com/example/shirase/shirase/capture/FragmentedPacket", "canBelong", "(IIZ)Z"⟩ : MethodName) prog_12_method_2_code 3 (some .boolean) ({ frames := 0, cells := 0, slots := 0, locals := 0 } : Room) #[(.int o), (.int n), (.int m')] h0 (fun v h L => v = some (.int (own_can o n m')) ∧ L = [] ∧ h = h0) := by
  refine MetFree.of_bodySF (plainFor_of_name own_f1) hisR ?_
  intro p e s m args below meth c s₁ Bd hml0 hP hK
  obtain ⟨rfl, hZ, hh⟩ := hP
  have hx := Bd.exec
  have hby := Bd.bytes
  have hlk : meth.locks = false := Bd.notSynchronized
  have hml : c.maxLocals = 3 := hml0
  have hown : s.vm.findClass "com/example/shirase/shirase/capture/FragmentedPacket" = some m.cls := findClass_of_methodNamed Bd.named
  have hnm := (name_of_methodNamed Bd.named Bd.method).1
  have X0 : Stand p l e ({ frames := 0, cells := 0, slots := 0, locals := 0 } : Room) s m #[(.int o), (.int n), (.int m')] below meth c s₁ [] 0 0 := Stand.of_body Bd
  have e0 : s₁.heap = h0 := by rw [← hh, Bd.state]; rfl
  show own_Go p e below (own_G s (fun v h L => v = some (.int (own_can o n m')) ∧ L = [] ∧ h = h0) 0 0) (s₁.setTop (entryFrame m #[(.int o), (.int n), (.int m')] 3))
  rw [own_f2]
  show own_Go p e below _ (s₁.setTop (mkF m 0 #[.val (.int o), .val (.int n), .val (.int m')] []))
  refine own_go (XS.iloadN X0.here hx rfl (hb hby own_canBelong_0) rfl (Steps.refl _)) ?_
  show own_Go p e below _ (s₁.setTop (mkF m 1 #[.val (.int o), .val (.int n), .val (.int m')] [(.int m')]))
  by_cases hc1 : m' = (0 : Int32)
  · refine own_go (XS.ifYes X0.here hx rfl (pc0 := 1) (pc' := 11) rfl (hb hby own_canBelong_1) rfl ((if0 _ _).trans (teq hc1).1) (by decide) (by decide) (Steps.refl _)) ?_
    show own_Go p e below _ (s₁.setTop (mkF m 11 #[.val (.int o), .val (.int n), .val (.int m')] []))
    refine own_go (XS.iloadN X0.here hx rfl (hb hby own_canBelong_11) rfl (Steps.refl _)) ?_
    show own_Go p e below _ (s₁.setTop (mkF m 12 #[.val (.int o), .val (.int n), .val (.int m')] [(.int o)]))
    refine own_go (XS.iloadN X0.here hx rfl (hb hby own_canBelong_12) rfl (Steps.refl _)) ?_
    show own_Go p e below _ (s₁.setTop (mkF m 13 #[.val (.int o), .val (.int n), .val (.int m')] [(.int n), (.int o)]))
    refine own_go (XS.iadd X0.here hx rfl (hb hby own_canBelong_13) rfl (Steps.refl _)) ?_
    show own_Go p e below _ (s₁.setTop (mkF m 14 #[.val (.int o), .val (.int n), .val (.int m')] [(.int (o + n))]))
    refine own_go (X0.ldcInt hx hown (mvT hZ (hw _ (List.mem_of_getElem? (i := 6) rfl))) (g := (mkF m 14 #[.val (.int o), .val (.int n), .val (.int m')] [(.int (o + n))])) rfl (hb hby own_canBelong_14) _ (Steps.refl _)) ?_
    show own_Go p e below _ (s₁.setTop (mkF m 16 #[.val (.int o), .val (.int n), .val (.int m')] [(.int (65535 : Int32)), (.int (o + n))]))
    by_cases hc16 : (65535 : Int32) < (o + n)
    · refine own_go (XS.icmpYes X0.here hx rfl (pc0 := 16) (pc' := 23) rfl (hb hby own_canBelong_16) rfl (tlt hc16).2.2.1 (by decide) (by decide) (Steps.refl _)) ?_
      show own_Go p e below _ (s₁.setTop (mkF m 23 #[.val (.int o), .val (.int n), .val (.int m')] []))
      refine own_go (XS.iconst X0.here hx rfl (hb hby own_canBelong_23) (Steps.refl _)) ?_
      show own_Go p e below _ (s₁.setTop (mkF m 24 #[.val (.int o), .val (.int n), .val (.int m')] [(.int (0 : Int32))]))
      exact own_retZ X0 hx hlk e0 Bd.returns (hb hby own_canBelong_24) (Or.inl rfl) ⟨congrArg (fun u => some (Value.int u)) ((own_b_f (by simp [hc1, hc16])).symm), rfl, rfl⟩ (by decide) (by decide)
    · refine own_go (XS.icmpNo X0.here hx rfl (hb hby own_canBelong_16) rfl (flt hc16).2.2.1 (Steps.refl _)) ?_
      show own_Go p e below _ (s₁.setTop (mkF m 19 #[.val (.int o), .val (.int n), .val (.int m')] []))
      refine own_go (XS.iconst X0.here hx rfl (hb hby own_canBelong_19) (Steps.refl _)) ?_
      show own_Go p e below _ (s₁.setTop (mkF m 20 #[.val (.int o), .val (.int n), .val (.int m')] [(.int (1 : Int32))]))
      refine own_go (XS.goto X0.here hx rfl (pc0 := 20) (pc' := 24) rfl (hb hby own_canBelong_20) (by decide) (by decide) (Steps.refl _)) ?_
      show own_Go p e below _ (s₁.setTop (mkF m 24 #[.val (.int o), .val (.int n), .val (.int m')] [(.int (1 : Int32))]))
      exact own_retZ X0 hx hlk e0 Bd.returns (hb hby own_canBelong_24) (Or.inr rfl) ⟨congrArg (fun u => some (Value.int u)) ((own_b_t (by simp [hc1, hc16])).symm), rfl, rfl⟩ (by decide) (by decide)
  · refine own_go (XS.ifNo X0.here hx rfl (hb hby own_canBelong_1) rfl ((if0 _ _).trans (feq hc1).1) (Steps.refl _)) ?_
    show own_Go p e below _ (s₁.setTop (mkF m 4 #[.val (.int o), .val (.int n), .val (.int m')] []))
    refine own_go (XS.iloadN X0.here hx rfl (hb hby own_canBelong_4) rfl (Steps.refl _)) ?_
    show own_Go p e below _ (s₁.setTop (mkF m 5 #[.val (.int o), .val (.int n), .val (.int m')] [(.int n)]))
    refine own_go (XS.bipush X0.here hx rfl (hb hby own_canBelong_5) (Steps.refl _)) ?_
    show own_Go p e below _ (s₁.setTop (mkF m 7 #[.val (.int o), .val (.int n), .val (.int m')] [(.int (8 : Int32)), (.int n)]))
    refine own_go (iremM X0 hx rfl (hb hby own_canBelong_7) rfl (by decide) (Steps.refl _)) ?_
    show own_Go p e below _ (s₁.setTop (mkF m 8 #[.val (.int o), .val (.int n), .val (.int m')] [(.int (n % (8 : Int32)))]))
    by_cases hc8 : (n % (8 : Int32)) = (0 : Int32)
    · refine own_go (XS.ifNo X0.here hx rfl (hb hby own_canBelong_8) rfl ((if0 _ _).trans (teq hc8).2) (Steps.refl _)) ?_
      show own_Go p e below _ (s₁.setTop (mkF m 11 #[.val (.int o), .val (.int n), .val (.int m')] []))
      refine own_go (XS.iloadN X0.here hx rfl (hb hby own_canBelong_11) rfl (Steps.refl _)) ?_
      show own_Go p e below _ (s₁.setTop (mkF m 12 #[.val (.int o), .val (.int n), .val (.int m')] [(.int o)]))
      refine own_go (XS.iloadN X0.here hx rfl (hb hby own_canBelong_12) rfl (Steps.refl _)) ?_
      show own_Go p e below _ (s₁.setTop (mkF m 13 #[.val (.int o), .val (.int n), .val (.int m')] [(.int n), (.int o)]))
      refine own_go (XS.iadd X0.here hx rfl (hb hby own_canBelong_13) rfl (Steps.refl _)) ?_
      show own_Go p e below _ (s₁.setTop (mkF m 14 #[.val (.int o), .val (.int n), .val (.int m')] [(.int (o + n))]))
      refine own_go (X0.ldcInt hx hown (mvT hZ (hw _ (List.mem_of_getElem? (i := 6) rfl))) (g := (mkF m 14 #[.val (.int o), .val (.int n), .val (.int m')] [(.int (o + n))])) rfl (hb hby own_canBelong_14) _ (Steps.refl _)) ?_
      show own_Go p e below _ (s₁.setTop (mkF m 16 #[.val (.int o), .val (.int n), .val (.int m')] [(.int (65535 : Int32)), (.int (o + n))]))
      by_cases hc16 : (65535 : Int32) < (o + n)
      · refine own_go (XS.icmpYes X0.here hx rfl (pc0 := 16) (pc' := 23) rfl (hb hby own_canBelong_16) rfl (tlt hc16).2.2.1 (by decide) (by decide) (Steps.refl _)) ?_
        show own_Go p e below _ (s₁.setTop (mkF m 23 #[.val (.int o), .val (.int n), .val (.int m')] []))
        refine own_go (XS.iconst X0.here hx rfl (hb hby own_canBelong_23) (Steps.refl _)) ?_
        show own_Go p e below _ (s₁.setTop (mkF m 24 #[.val (.int o), .val (.int n), .val (.int m')] [(.int (0 : Int32))]))
        exact own_retZ X0 hx hlk e0 Bd.returns (hb hby own_canBelong_24) (Or.inl rfl) ⟨congrArg (fun u => some (Value.int u)) ((own_b_f (by simp [hc1, hc8, hc16])).symm), rfl, rfl⟩ (by decide) (by decide)
      · refine own_go (XS.icmpNo X0.here hx rfl (hb hby own_canBelong_16) rfl (flt hc16).2.2.1 (Steps.refl _)) ?_
        show own_Go p e below _ (s₁.setTop (mkF m 19 #[.val (.int o), .val (.int n), .val (.int m')] []))
        refine own_go (XS.iconst X0.here hx rfl (hb hby own_canBelong_19) (Steps.refl _)) ?_
        show own_Go p e below _ (s₁.setTop (mkF m 20 #[.val (.int o), .val (.int n), .val (.int m')] [(.int (1 : Int32))]))
        refine own_go (XS.goto X0.here hx rfl (pc0 := 20) (pc' := 24) rfl (hb hby own_canBelong_20) (by decide) (by decide) (Steps.refl _)) ?_
        show own_Go p e below _ (s₁.setTop (mkF m 24 #[.val (.int o), .val (.int n), .val (.int m')] [(.int (1 : Int32))]))
        exact own_retZ X0 hx hlk e0 Bd.returns (hb hby own_canBelong_24) (Or.inr rfl) ⟨congrArg (fun u => some (Value.int u)) ((own_b_t (by simp [hc1, hc8, hc16])).symm), rfl, rfl⟩ (by decide) (by decide)
    · refine own_go (XS.ifYes X0.here hx rfl (pc0 := 8) (pc' := 23) rfl (hb hby own_canBelong_8) rfl ((if0 _ _).trans (feq hc8).2) (by decide) (by decide) (Steps.refl _)) ?_
      show own_Go p e below _ (s₁.setTop (mkF m 23 #[.val (.int o), .val (.int n), .val (.int m')] []))
      refine own_go (XS.iconst X0.here hx rfl (hb hby own_canBelong_23) (Steps.refl _)) ?_
      show own_Go p e below _ (s₁.setTop (mkF m 24 #[.val (.int o), .val (.int n), .val (.int m')] [(.int (0 : Int32))]))
      exact own_retZ X0 hx hlk e0 Bd.returns (hb hby own_canBelong_24) (Or.inl rfl) ⟨congrArg (fun u => some (Value.int u)) ((own_b_f (by simp [hc1, hc8])).symm), rfl, rfl⟩ (by decide) (by decide)
theorem own_f3 : plainName "com/example/shirase/shirase/capture/FragmentedPacketCanBelongPinLaw" = true := by first | (simp [plainName, overriddenIn]; done) | decide +kernel
theorem own_f4 : parseMethodDescriptor "(IIZ)Z" = some ⟨[.int, .int, .boolean], some .boolean⟩ := by decide +kernel
theorem own_f5 (m : MethodId) (x0 : Int32) (x1 : Int32) (x2 : Int32) : entryFrame m #[(.int x0), (.int x1), (.int x2)] maxLocals = mkF m 0 #[.val (.int x0), .val (.int x1), .val (.int x2), .unset, .unset, .unset, .unset, .unset, .unset] [] := by first | (simp [entryFrame, mkF, argsToLocals, Value.category, maxLocals]; done) | rfl
set_option maxRecDepth 65536 in
set_option maxHeartbeats 40000000 in
theorem rm_law (l : Launch) (Z : State) (a0 : Array Value) (hw : ∀ d ∈ tables_1, d.before a0 Z = true) (p1 p2 p3 : Int32) (h0 : Heap) (n0 : Nat) (Z0 : n0 ≤ h0.size)  :
    own_MetL l Z (#[(.int p1), (.int p2), (.int p3)]) h0 (fun v h L => v = some (.int 1) ∧ Fr n0 L) := by
  refine MetFree.of_bodySF (plainFor_of_name own_f3) hisR ?_
  intro p e s m args below meth c s₁ Bd hml0 hP hK
  obtain ⟨rfl, hZ, hh⟩ := hP
  have hx := Bd.exec
  have hby := Bd.bytes
  have hlk : meth.locks = false := Bd.notSynchronized
  have hml : c.maxLocals = 9 := hml0
  have hown : s.vm.findClass "com/example/shirase/shirase/capture/FragmentedPacketCanBelongPinLaw" = some m.cls := findClass_of_methodNamed Bd.named
  have hnm := (name_of_methodNamed Bd.named Bd.method).1
  have X0 : Stand p l e room_1 s m #[(.int p1), (.int p2), (.int p3)] below meth c s₁ [] 0 0 := Stand.of_body Bd
  have e0 : s₁.heap = h0 := by rw [← hh, Bd.state]; rfl
  show own_Go p e below (own_G s (fun v h L => v = some (.int 1) ∧ Fr n0 L) room_1.cells room_1.slots) (s₁.setTop (entryFrame m #[(.int p1), (.int p2), (.int p3)] maxLocals))
  rw [own_f5]
  show own_Go p e below _ (s₁.setTop (mkF m 0 #[.val (.int p1), .val (.int p2), .val (.int p3), .unset, .unset, .unset, .unset, .unset, .unset] []))
  refine own_go (XS.iloadN X0.here hx rfl (hb hby at_0) rfl (Steps.refl _)) ?_
  show own_Go p e below _ (s₁.setTop (mkF m 1 #[.val (.int p1), .val (.int p2), .val (.int p3), .unset, .unset, .unset, .unset, .unset, .unset] [(.int p1)]))
  refine own_go (X0.ldcInt hx hown (mvT hZ (hw _ (List.mem_of_getElem? (i := 0) rfl))) (g := (mkF m 1 #[.val (.int p1), .val (.int p2), .val (.int p3), .unset, .unset, .unset, .unset, .unset, .unset] [(.int p1)])) rfl (hb hby at_1) _ (Steps.refl _)) ?_
  show own_Go p e below _ (s₁.setTop (mkF m 3 #[.val (.int p1), .val (.int p2), .val (.int p3), .unset, .unset, .unset, .unset, .unset, .unset] [(.int (1073741823 : Int32)), (.int p1)]))
  refine own_go (XS.iand X0.here hx rfl (hb hby at_3) rfl (Steps.refl _)) ?_
  show own_Go p e below _ (s₁.setTop (mkF m 4 #[.val (.int p1), .val (.int p2), .val (.int p3), .unset, .unset, .unset, .unset, .unset, .unset] [(.int (p1 &&& (1073741823 : Int32)))]))
  refine own_go (XS.istoreN X0.here hx rfl (hb hby at_4) rfl (l' := #[.val (.int p1), .val (.int p2), .val (.int p3), .val (.int (p1 &&& (1073741823 : Int32))), .unset, .unset, .unset, .unset, .unset]) rfl (Steps.refl _)) ?_
  show own_Go p e below _ (s₁.setTop (mkF m 5 #[.val (.int p1), .val (.int p2), .val (.int p3), .val (.int (p1 &&& (1073741823 : Int32))), .unset, .unset, .unset, .unset, .unset] []))
  have ho := own_bounds p1
  have hn := own_bounds p2
  refine own_go (XS.iloadN X0.here hx rfl (hb hby at_5) rfl (Steps.refl _)) ?_
  show own_Go p e below _ (s₁.setTop (mkF m 6 #[.val (.int p1), .val (.int p2), .val (.int p3), .val (.int (p1 &&& (1073741823 : Int32))), .unset, .unset, .unset, .unset, .unset] [(.int p2)]))
  refine own_go (X0.ldcInt hx hown (mvT hZ (hw _ (List.mem_of_getElem? (i := 0) rfl))) (g := (mkF m 6 #[.val (.int p1), .val (.int p2), .val (.int p3), .val (.int (p1 &&& (1073741823 : Int32))), .unset, .unset, .unset, .unset, .unset] [(.int p2)])) rfl (hb hby at_6) _ (Steps.refl _)) ?_
  show own_Go p e below _ (s₁.setTop (mkF m 8 #[.val (.int p1), .val (.int p2), .val (.int p3), .val (.int (p1 &&& (1073741823 : Int32))), .unset, .unset, .unset, .unset, .unset] [(.int (1073741823 : Int32)), (.int p2)]))
  refine own_go (XS.iand X0.here hx rfl (hb hby at_8) rfl (Steps.refl _)) ?_
  show own_Go p e below _ (s₁.setTop (mkF m 9 #[.val (.int p1), .val (.int p2), .val (.int p3), .val (.int (p1 &&& (1073741823 : Int32))), .unset, .unset, .unset, .unset, .unset] [(.int (p2 &&& (1073741823 : Int32)))]))
  refine own_go (XS.istore X0.here hx rfl (hb hby at_9) rfl (l' := #[.val (.int p1), .val (.int p2), .val (.int p3), .val (.int (p1 &&& (1073741823 : Int32))), .val (.int (p2 &&& (1073741823 : Int32))), .unset, .unset, .unset, .unset]) rfl (Steps.refl _)) ?_
  show own_Go p e below _ (s₁.setTop (mkF m 11 #[.val (.int p1), .val (.int p2), .val (.int p3), .val (.int (p1 &&& (1073741823 : Int32))), .val (.int (p2 &&& (1073741823 : Int32))), .unset, .unset, .unset, .unset] []))
  obtain ⟨o, eo⟩ : ∃ z : Int32, z = p1 &&& (1073741823 : Int32) := ⟨_, rfl⟩
  obtain ⟨n, en⟩ : ∃ z : Int32, z = p2 &&& (1073741823 : Int32) := ⟨_, rfl⟩
  rw [← eo] at ho
  rw [← en] at hn
  rw [← eo, ← en]
  show own_Go p e below _ (s₁.setTop (mkF m 11 #[.val (.int p1), .val (.int p2), .val (.int p3), .val (.int o), .val (.int n), .unset, .unset, .unset, .unset] []))
  refine own_go (XS.iloadN X0.here hx rfl (hb hby at_11) rfl (Steps.refl _)) ?_
  show own_Go p e below _ (s₁.setTop (mkF m 12 #[.val (.int p1), .val (.int p2), .val (.int p3), .val (.int o), .val (.int n), .unset, .unset, .unset, .unset] [(.int p3)]))
  refine own_go (XS.iconst X0.here hx rfl (hb hby at_12) (Steps.refl _)) ?_
  show own_Go p e below _ (s₁.setTop (mkF m 13 #[.val (.int p1), .val (.int p2), .val (.int p3), .val (.int o), .val (.int n), .unset, .unset, .unset, .unset] [(.int (1 : Int32)), (.int p3)]))
  refine own_go (XS.iand X0.here hx rfl (hb hby at_13) rfl (Steps.refl _)) ?_
  show own_Go p e below _ (s₁.setTop (mkF m 14 #[.val (.int p1), .val (.int p2), .val (.int p3), .val (.int o), .val (.int n), .unset, .unset, .unset, .unset] [(.int (p3 &&& (1 : Int32)))]))
  suffices J1 : ∀ vJ1 : Int32, vJ1 = own_b (¬ (p3 &&& (1 : Int32)) = (0 : Int32)) → own_Go p e below (own_G s (fun v h L => v = some (.int 1) ∧ Fr n0 L) room_1.cells room_1.slots) (s₁.setTop (mkF m 22 #[.val (.int p1), .val (.int p2), .val (.int p3), .val (.int o), .val (.int n), .unset, .unset, .unset, .unset] [(.int vJ1)])) by
    by_cases hcJ114 : (p3 &&& (1 : Int32)) = (0 : Int32)
    · refine own_go (XS.ifYes X0.here hx rfl (pc0 := 14) (pc' := 21) rfl (hb hby at_14) rfl ((if0 _ _).trans (teq hcJ114).1) (by decide) (by decide) (Steps.refl _)) ?_
      show own_Go p e below _ (s₁.setTop (mkF m 21 #[.val (.int p1), .val (.int p2), .val (.int p3), .val (.int o), .val (.int n), .unset, .unset, .unset, .unset] []))
      refine own_go (XS.iconst X0.here hx rfl (hb hby at_21) (Steps.refl _)) ?_
      show own_Go p e below _ (s₁.setTop (mkF m 22 #[.val (.int p1), .val (.int p2), .val (.int p3), .val (.int o), .val (.int n), .unset, .unset, .unset, .unset] [(.int (0 : Int32))]))
      exact J1 _ (own_b_f (by simp [hcJ114])).symm
    · refine own_go (XS.ifNo X0.here hx rfl (hb hby at_14) rfl ((if0 _ _).trans (feq hcJ114).1) (Steps.refl _)) ?_
      show own_Go p e below _ (s₁.setTop (mkF m 17 #[.val (.int p1), .val (.int p2), .val (.int p3), .val (.int o), .val (.int n), .unset, .unset, .unset, .unset] []))
      refine own_go (XS.iconst X0.here hx rfl (hb hby at_17) (Steps.refl _)) ?_
      show own_Go p e below _ (s₁.setTop (mkF m 18 #[.val (.int p1), .val (.int p2), .val (.int p3), .val (.int o), .val (.int n), .unset, .unset, .unset, .unset] [(.int (1 : Int32))]))
      refine own_go (XS.goto X0.here hx rfl (pc0 := 18) (pc' := 22) rfl (hb hby at_18) (by decide) (by decide) (Steps.refl _)) ?_
      show own_Go p e below _ (s₁.setTop (mkF m 22 #[.val (.int p1), .val (.int p2), .val (.int p3), .val (.int o), .val (.int n), .unset, .unset, .unset, .unset] [(.int (1 : Int32))]))
      exact J1 _ (own_b_t (by simp [hcJ114])).symm
  intro vJ1 hvJ1
  subst hvJ1
  show own_Go p e below _ (s₁.setTop (mkF m 22 #[.val (.int p1), .val (.int p2), .val (.int p3), .val (.int o), .val (.int n), .unset, .unset, .unset, .unset] [(.int (own_b (¬ (p3 &&& (1 : Int32)) = (0 : Int32))))]))
  refine own_go (XS.istore X0.here hx rfl (hb hby at_22) rfl (l' := #[.val (.int p1), .val (.int p2), .val (.int p3), .val (.int o), .val (.int n), .val (.int (own_b (¬ (p3 &&& (1 : Int32)) = (0 : Int32)))), .unset, .unset, .unset]) rfl (Steps.refl _)) ?_
  show own_Go p e below _ (s₁.setTop (mkF m 24 #[.val (.int p1), .val (.int p2), .val (.int p3), .val (.int o), .val (.int n), .val (.int (own_b (¬ (p3 &&& (1 : Int32)) = (0 : Int32)))), .unset, .unset, .unset] []))
  refine own_go (XS.iload X0.here hx rfl (hb hby at_24) rfl (Steps.refl _)) ?_
  show own_Go p e below _ (s₁.setTop (mkF m 26 #[.val (.int p1), .val (.int p2), .val (.int p3), .val (.int o), .val (.int n), .val (.int (own_b (¬ (p3 &&& (1 : Int32)) = (0 : Int32)))), .unset, .unset, .unset] [(.int n)]))
  refine own_go (XS.bipush X0.here hx rfl (hb hby at_26) (Steps.refl _)) ?_
  show own_Go p e below _ (s₁.setTop (mkF m 28 #[.val (.int p1), .val (.int p2), .val (.int p3), .val (.int o), .val (.int n), .val (.int (own_b (¬ (p3 &&& (1 : Int32)) = (0 : Int32)))), .unset, .unset, .unset] [(.int (8 : Int32)), (.int n)]))
  refine own_go (XS.idiv X0.here hx rfl (hb hby at_28) rfl (by decide) (Steps.refl _)) ?_
  show own_Go p e below _ (s₁.setTop (mkF m 29 #[.val (.int p1), .val (.int p2), .val (.int p3), .val (.int o), .val (.int n), .val (.int (own_b (¬ (p3 &&& (1 : Int32)) = (0 : Int32)))), .unset, .unset, .unset] [(.int (n / (8 : Int32)))]))
  refine own_go (XS.bipush X0.here hx rfl (hb hby at_29) (Steps.refl _)) ?_
  show own_Go p e below _ (s₁.setTop (mkF m 31 #[.val (.int p1), .val (.int p2), .val (.int p3), .val (.int o), .val (.int n), .val (.int (own_b (¬ (p3 &&& (1 : Int32)) = (0 : Int32)))), .unset, .unset, .unset] [(.int (8 : Int32)), (.int (n / (8 : Int32)))]))
  refine own_go (XS.imul X0.here hx rfl (hb hby at_31) rfl (Steps.refl _)) ?_
  show own_Go p e below _ (s₁.setTop (mkF m 32 #[.val (.int p1), .val (.int p2), .val (.int p3), .val (.int o), .val (.int n), .val (.int (own_b (¬ (p3 &&& (1 : Int32)) = (0 : Int32)))), .unset, .unset, .unset] [(.int ((n / (8 : Int32)) * (8 : Int32)))]))
  refine own_go (XS.iload X0.here hx rfl (hb hby at_32) rfl (Steps.refl _)) ?_
  show own_Go p e below _ (s₁.setTop (mkF m 34 #[.val (.int p1), .val (.int p2), .val (.int p3), .val (.int o), .val (.int n), .val (.int (own_b (¬ (p3 &&& (1 : Int32)) = (0 : Int32)))), .unset, .unset, .unset] [(.int n), (.int ((n / (8 : Int32)) * (8 : Int32)))]))
  suffices J2 : ∀ vJ2 : Int32, vJ2 = own_b (((n / (8 : Int32)) * (8 : Int32)) = n) → own_Go p e below (own_G s (fun v h L => v = some (.int 1) ∧ Fr n0 L) room_1.cells room_1.slots) (s₁.setTop (mkF m 42 #[.val (.int p1), .val (.int p2), .val (.int p3), .val (.int o), .val (.int n), .val (.int (own_b (¬ (p3 &&& (1 : Int32)) = (0 : Int32)))), .unset, .unset, .unset] [(.int vJ2)])) by
    by_cases hcJ234 : ((n / (8 : Int32)) * (8 : Int32)) = n
    · refine own_go (XS.icmpNo X0.here hx rfl (hb hby at_34) rfl (teq hcJ234).2 (Steps.refl _)) ?_
      show own_Go p e below _ (s₁.setTop (mkF m 37 #[.val (.int p1), .val (.int p2), .val (.int p3), .val (.int o), .val (.int n), .val (.int (own_b (¬ (p3 &&& (1 : Int32)) = (0 : Int32)))), .unset, .unset, .unset] []))
      refine own_go (XS.iconst X0.here hx rfl (hb hby at_37) (Steps.refl _)) ?_
      show own_Go p e below _ (s₁.setTop (mkF m 38 #[.val (.int p1), .val (.int p2), .val (.int p3), .val (.int o), .val (.int n), .val (.int (own_b (¬ (p3 &&& (1 : Int32)) = (0 : Int32)))), .unset, .unset, .unset] [(.int (1 : Int32))]))
      refine own_go (XS.goto X0.here hx rfl (pc0 := 38) (pc' := 42) rfl (hb hby at_38) (by decide) (by decide) (Steps.refl _)) ?_
      show own_Go p e below _ (s₁.setTop (mkF m 42 #[.val (.int p1), .val (.int p2), .val (.int p3), .val (.int o), .val (.int n), .val (.int (own_b (¬ (p3 &&& (1 : Int32)) = (0 : Int32)))), .unset, .unset, .unset] [(.int (1 : Int32))]))
      exact J2 _ (own_b_t (by simp [hcJ234])).symm
    · refine own_go (XS.icmpYes X0.here hx rfl (pc0 := 34) (pc' := 41) rfl (hb hby at_34) rfl (feq hcJ234).2 (by decide) (by decide) (Steps.refl _)) ?_
      show own_Go p e below _ (s₁.setTop (mkF m 41 #[.val (.int p1), .val (.int p2), .val (.int p3), .val (.int o), .val (.int n), .val (.int (own_b (¬ (p3 &&& (1 : Int32)) = (0 : Int32)))), .unset, .unset, .unset] []))
      refine own_go (XS.iconst X0.here hx rfl (hb hby at_41) (Steps.refl _)) ?_
      show own_Go p e below _ (s₁.setTop (mkF m 42 #[.val (.int p1), .val (.int p2), .val (.int p3), .val (.int o), .val (.int n), .val (.int (own_b (¬ (p3 &&& (1 : Int32)) = (0 : Int32)))), .unset, .unset, .unset] [(.int (0 : Int32))]))
      exact J2 _ (own_b_f (by simp [hcJ234])).symm
  intro vJ2 hvJ2
  subst hvJ2
  show own_Go p e below _ (s₁.setTop (mkF m 42 #[.val (.int p1), .val (.int p2), .val (.int p3), .val (.int o), .val (.int n), .val (.int (own_b (¬ (p3 &&& (1 : Int32)) = (0 : Int32)))), .unset, .unset, .unset] [(.int (own_b (((n / (8 : Int32)) * (8 : Int32)) = n)))]))
  refine own_go (XS.istore X0.here hx rfl (hb hby at_42) rfl (l' := #[.val (.int p1), .val (.int p2), .val (.int p3), .val (.int o), .val (.int n), .val (.int (own_b (¬ (p3 &&& (1 : Int32)) = (0 : Int32)))), .val (.int (own_b (((n / (8 : Int32)) * (8 : Int32)) = n))), .unset, .unset]) rfl (Steps.refl _)) ?_
  show own_Go p e below _ (s₁.setTop (mkF m 44 #[.val (.int p1), .val (.int p2), .val (.int p3), .val (.int o), .val (.int n), .val (.int (own_b (¬ (p3 &&& (1 : Int32)) = (0 : Int32)))), .val (.int (own_b (((n / (8 : Int32)) * (8 : Int32)) = n))), .unset, .unset] []))
  refine own_go (XS.iload X0.here hx rfl (hb hby at_44) rfl (Steps.refl _)) ?_
  show own_Go p e below _ (s₁.setTop (mkF m 46 #[.val (.int p1), .val (.int p2), .val (.int p3), .val (.int o), .val (.int n), .val (.int (own_b (¬ (p3 &&& (1 : Int32)) = (0 : Int32)))), .val (.int (own_b (((n / (8 : Int32)) * (8 : Int32)) = n))), .unset, .unset] [(.int n)]))
  refine own_go (X0.ldcInt hx hown (mvT hZ (hw _ (List.mem_of_getElem? (i := 1) rfl))) (g := (mkF m 46 #[.val (.int p1), .val (.int p2), .val (.int p3), .val (.int o), .val (.int n), .val (.int (own_b (¬ (p3 &&& (1 : Int32)) = (0 : Int32)))), .val (.int (own_b (((n / (8 : Int32)) * (8 : Int32)) = n))), .unset, .unset] [(.int n)])) rfl (hb hby at_46) _ (Steps.refl _)) ?_
  show own_Go p e below _ (s₁.setTop (mkF m 48 #[.val (.int p1), .val (.int p2), .val (.int p3), .val (.int o), .val (.int n), .val (.int (own_b (¬ (p3 &&& (1 : Int32)) = (0 : Int32)))), .val (.int (own_b (((n / (8 : Int32)) * (8 : Int32)) = n))), .unset, .unset] [(.int (65535 : Int32)), (.int n)]))
  refine own_go (XS.iloadN X0.here hx rfl (hb hby at_48) rfl (Steps.refl _)) ?_
  show own_Go p e below _ (s₁.setTop (mkF m 49 #[.val (.int p1), .val (.int p2), .val (.int p3), .val (.int o), .val (.int n), .val (.int (own_b (¬ (p3 &&& (1 : Int32)) = (0 : Int32)))), .val (.int (own_b (((n / (8 : Int32)) * (8 : Int32)) = n))), .unset, .unset] [(.int o), (.int (65535 : Int32)), (.int n)]))
  refine own_go (XS.isub X0.here hx rfl (hb hby at_49) rfl (Steps.refl _)) ?_
  show own_Go p e below _ (s₁.setTop (mkF m 50 #[.val (.int p1), .val (.int p2), .val (.int p3), .val (.int o), .val (.int n), .val (.int (own_b (¬ (p3 &&& (1 : Int32)) = (0 : Int32)))), .val (.int (own_b (((n / (8 : Int32)) * (8 : Int32)) = n))), .unset, .unset] [(.int ((65535 : Int32) - o)), (.int n)]))
  suffices J3 : ∀ vJ3 : Int32, vJ3 = own_b (¬ ((65535 : Int32) - o) < n) → own_Go p e below (own_G s (fun v h L => v = some (.int 1) ∧ Fr n0 L) room_1.cells room_1.slots) (s₁.setTop (mkF m 58 #[.val (.int p1), .val (.int p2), .val (.int p3), .val (.int o), .val (.int n), .val (.int (own_b (¬ (p3 &&& (1 : Int32)) = (0 : Int32)))), .val (.int (own_b (((n / (8 : Int32)) * (8 : Int32)) = n))), .unset, .unset] [(.int vJ3)])) by
    by_cases hcJ350 : ((65535 : Int32) - o) < n
    · refine own_go (XS.icmpYes X0.here hx rfl (pc0 := 50) (pc' := 57) rfl (hb hby at_50) rfl (tlt hcJ350).2.2.1 (by decide) (by decide) (Steps.refl _)) ?_
      show own_Go p e below _ (s₁.setTop (mkF m 57 #[.val (.int p1), .val (.int p2), .val (.int p3), .val (.int o), .val (.int n), .val (.int (own_b (¬ (p3 &&& (1 : Int32)) = (0 : Int32)))), .val (.int (own_b (((n / (8 : Int32)) * (8 : Int32)) = n))), .unset, .unset] []))
      refine own_go (XS.iconst X0.here hx rfl (hb hby at_57) (Steps.refl _)) ?_
      show own_Go p e below _ (s₁.setTop (mkF m 58 #[.val (.int p1), .val (.int p2), .val (.int p3), .val (.int o), .val (.int n), .val (.int (own_b (¬ (p3 &&& (1 : Int32)) = (0 : Int32)))), .val (.int (own_b (((n / (8 : Int32)) * (8 : Int32)) = n))), .unset, .unset] [(.int (0 : Int32))]))
      exact J3 _ (own_b_f (by simp [hcJ350])).symm
    · refine own_go (XS.icmpNo X0.here hx rfl (hb hby at_50) rfl (flt hcJ350).2.2.1 (Steps.refl _)) ?_
      show own_Go p e below _ (s₁.setTop (mkF m 53 #[.val (.int p1), .val (.int p2), .val (.int p3), .val (.int o), .val (.int n), .val (.int (own_b (¬ (p3 &&& (1 : Int32)) = (0 : Int32)))), .val (.int (own_b (((n / (8 : Int32)) * (8 : Int32)) = n))), .unset, .unset] []))
      refine own_go (XS.iconst X0.here hx rfl (hb hby at_53) (Steps.refl _)) ?_
      show own_Go p e below _ (s₁.setTop (mkF m 54 #[.val (.int p1), .val (.int p2), .val (.int p3), .val (.int o), .val (.int n), .val (.int (own_b (¬ (p3 &&& (1 : Int32)) = (0 : Int32)))), .val (.int (own_b (((n / (8 : Int32)) * (8 : Int32)) = n))), .unset, .unset] [(.int (1 : Int32))]))
      refine own_go (XS.goto X0.here hx rfl (pc0 := 54) (pc' := 58) rfl (hb hby at_54) (by decide) (by decide) (Steps.refl _)) ?_
      show own_Go p e below _ (s₁.setTop (mkF m 58 #[.val (.int p1), .val (.int p2), .val (.int p3), .val (.int o), .val (.int n), .val (.int (own_b (¬ (p3 &&& (1 : Int32)) = (0 : Int32)))), .val (.int (own_b (((n / (8 : Int32)) * (8 : Int32)) = n))), .unset, .unset] [(.int (1 : Int32))]))
      exact J3 _ (own_b_t (by simp [hcJ350])).symm
  intro vJ3 hvJ3
  subst hvJ3
  show own_Go p e below _ (s₁.setTop (mkF m 58 #[.val (.int p1), .val (.int p2), .val (.int p3), .val (.int o), .val (.int n), .val (.int (own_b (¬ (p3 &&& (1 : Int32)) = (0 : Int32)))), .val (.int (own_b (((n / (8 : Int32)) * (8 : Int32)) = n))), .unset, .unset] [(.int (own_b (¬ ((65535 : Int32) - o) < n)))]))
  have hf := own_fit o n ho hn
  have hq := own_whole n hn
  refine own_go (XS.istore X0.here hx rfl (hb hby at_58) rfl (l' := #[.val (.int p1), .val (.int p2), .val (.int p3), .val (.int o), .val (.int n), .val (.int (own_b (¬ (p3 &&& (1 : Int32)) = (0 : Int32)))), .val (.int (own_b (((n / (8 : Int32)) * (8 : Int32)) = n))), .val (.int (own_b (¬ ((65535 : Int32) - o) < n))), .unset]) rfl (Steps.refl _)) ?_
  show own_Go p e below _ (s₁.setTop (mkF m 60 #[.val (.int p1), .val (.int p2), .val (.int p3), .val (.int o), .val (.int n), .val (.int (own_b (¬ (p3 &&& (1 : Int32)) = (0 : Int32)))), .val (.int (own_b (((n / (8 : Int32)) * (8 : Int32)) = n))), .val (.int (own_b (¬ ((65535 : Int32) - o) < n))), .unset] []))
  refine own_go (XS.iload X0.here hx rfl (hb hby at_60) rfl (Steps.refl _)) ?_
  show own_Go p e below _ (s₁.setTop (mkF m 62 #[.val (.int p1), .val (.int p2), .val (.int p3), .val (.int o), .val (.int n), .val (.int (own_b (¬ (p3 &&& (1 : Int32)) = (0 : Int32)))), .val (.int (own_b (((n / (8 : Int32)) * (8 : Int32)) = n))), .val (.int (own_b (¬ ((65535 : Int32) - o) < n))), .unset] [(.int (own_b (¬ ((65535 : Int32) - o) < n)))]))
  by_cases hc62 : ¬ ((65535 : Int32) - o) < n
  · refine own_go (XS.ifYes X0.here hx rfl (pc0 := 62) (pc' := 71) rfl (hb hby at_62) rfl ((if0 _ _).trans (feq (own_b_nz hc62)).2) (by decide) (by decide) (Steps.refl _)) ?_
    show own_Go p e below _ (s₁.setTop (mkF m 71 #[.val (.int p1), .val (.int p2), .val (.int p3), .val (.int o), .val (.int n), .val (.int (own_b (¬ (p3 &&& (1 : Int32)) = (0 : Int32)))), .val (.int (own_b (((n / (8 : Int32)) * (8 : Int32)) = n))), .val (.int (own_b (¬ ((65535 : Int32) - o) < n))), .unset] []))
    refine own_go (XS.iload X0.here hx rfl (hb hby at_71) rfl (Steps.refl _)) ?_
    show own_Go p e below _ (s₁.setTop (mkF m 73 #[.val (.int p1), .val (.int p2), .val (.int p3), .val (.int o), .val (.int n), .val (.int (own_b (¬ (p3 &&& (1 : Int32)) = (0 : Int32)))), .val (.int (own_b (((n / (8 : Int32)) * (8 : Int32)) = n))), .val (.int (own_b (¬ ((65535 : Int32) - o) < n))), .unset] [(.int (own_b (¬ (p3 &&& (1 : Int32)) = (0 : Int32))))]))
    by_cases hc73 : ¬ (p3 &&& (1 : Int32)) = (0 : Int32)
    · refine own_go (XS.ifNo X0.here hx rfl (hb hby at_73) rfl ((if0 _ _).trans (feq (own_b_nz hc73)).1) (Steps.refl _)) ?_
      show own_Go p e below _ (s₁.setTop (mkF m 76 #[.val (.int p1), .val (.int p2), .val (.int p3), .val (.int o), .val (.int n), .val (.int (own_b (¬ (p3 &&& (1 : Int32)) = (0 : Int32)))), .val (.int (own_b (((n / (8 : Int32)) * (8 : Int32)) = n))), .val (.int (own_b (¬ ((65535 : Int32) - o) < n))), .unset] []))
      refine own_go (XS.iload X0.here hx rfl (hb hby at_76) rfl (Steps.refl _)) ?_
      show own_Go p e below _ (s₁.setTop (mkF m 78 #[.val (.int p1), .val (.int p2), .val (.int p3), .val (.int o), .val (.int n), .val (.int (own_b (¬ (p3 &&& (1 : Int32)) = (0 : Int32)))), .val (.int (own_b (((n / (8 : Int32)) * (8 : Int32)) = n))), .val (.int (own_b (¬ ((65535 : Int32) - o) < n))), .unset] [(.int (own_b (((n / (8 : Int32)) * (8 : Int32)) = n)))]))
      refine own_go (XS.istore X0.here hx rfl (hb hby at_78) rfl (l' := #[.val (.int p1), .val (.int p2), .val (.int p3), .val (.int o), .val (.int n), .val (.int (own_b (¬ (p3 &&& (1 : Int32)) = (0 : Int32)))), .val (.int (own_b (((n / (8 : Int32)) * (8 : Int32)) = n))), .val (.int (own_b (¬ ((65535 : Int32) - o) < n))), .val (.int (own_b (((n / (8 : Int32)) * (8 : Int32)) = n)))]) rfl (Steps.refl _)) ?_
      show own_Go p e below _ (s₁.setTop (mkF m 80 #[.val (.int p1), .val (.int p2), .val (.int p3), .val (.int o), .val (.int n), .val (.int (own_b (¬ (p3 &&& (1 : Int32)) = (0 : Int32)))), .val (.int (own_b (((n / (8 : Int32)) * (8 : Int32)) = n))), .val (.int (own_b (¬ ((65535 : Int32) - o) < n))), .val (.int (own_b (((n / (8 : Int32)) * (8 : Int32)) = n)))] []))
      refine own_go (XS.goto X0.here hx rfl (pc0 := 80) (pc' := 86) rfl (hb hby at_80) (by decide) (by decide) (Steps.refl _)) ?_
      show own_Go p e below _ (s₁.setTop (mkF m 86 #[.val (.int p1), .val (.int p2), .val (.int p3), .val (.int o), .val (.int n), .val (.int (own_b (¬ (p3 &&& (1 : Int32)) = (0 : Int32)))), .val (.int (own_b (((n / (8 : Int32)) * (8 : Int32)) = n))), .val (.int (own_b (¬ ((65535 : Int32) - o) < n))), .val (.int (own_b (((n / (8 : Int32)) * (8 : Int32)) = n)))] []))
      refine own_go (XS.iloadN X0.here hx rfl (hb hby at_86) rfl (Steps.refl _)) ?_
      show own_Go p e below _ (s₁.setTop (mkF m 87 #[.val (.int p1), .val (.int p2), .val (.int p3), .val (.int o), .val (.int n), .val (.int (own_b (¬ (p3 &&& (1 : Int32)) = (0 : Int32)))), .val (.int (own_b (((n / (8 : Int32)) * (8 : Int32)) = n))), .val (.int (own_b (¬ ((65535 : Int32) - o) < n))), .val (.int (own_b (((n / (8 : Int32)) * (8 : Int32)) = n)))] [(.int o)]))
      refine own_go (XS.iload X0.here hx rfl (hb hby at_87) rfl (Steps.refl _)) ?_
      show own_Go p e below _ (s₁.setTop (mkF m 89 #[.val (.int p1), .val (.int p2), .val (.int p3), .val (.int o), .val (.int n), .val (.int (own_b (¬ (p3 &&& (1 : Int32)) = (0 : Int32)))), .val (.int (own_b (((n / (8 : Int32)) * (8 : Int32)) = n))), .val (.int (own_b (¬ ((65535 : Int32) - o) < n))), .val (.int (own_b (((n / (8 : Int32)) * (8 : Int32)) = n)))] [(.int n), (.int o)]))
      refine own_go (XS.iload X0.here hx rfl (hb hby at_89) rfl (Steps.refl _)) ?_
      show own_Go p e below _ (s₁.setTop (mkF m 91 #[.val (.int p1), .val (.int p2), .val (.int p3), .val (.int o), .val (.int n), .val (.int (own_b (¬ (p3 &&& (1 : Int32)) = (0 : Int32)))), .val (.int (own_b (((n / (8 : Int32)) * (8 : Int32)) = n))), .val (.int (own_b (¬ ((65535 : Int32) - o) < n))), .val (.int (own_b (((n / (8 : Int32)) * (8 : Int32)) = n)))] [(.int (own_b (¬ (p3 &&& (1 : Int32)) = (0 : Int32)))), (.int n), (.int o)]))
      obtain ⟨_, _, ⟨T1, L1, k1, n1⟩, -, X1, ⟨Lc1, hQ1, l1, y1, z1⟩, st1⟩ := Jvm.LawKit.callS X0 hx (y := (⟨"com/example/shirase/shirase/capture/FragmentedPacket", "canBelong", "(IIZ)Z"⟩ : MethodName)) hown (mvT hZ (hw _ (List.mem_of_getElem? (i := 2) rfl))) (mvT hZ (hw _ (List.mem_of_getElem? (i := 3) rfl))) (mvT hZ (hw _ (List.mem_of_getElem? (i := 4) rfl))) (mvT hZ (hw _ (List.mem_of_getElem? (i := 5) rfl))) (by decide) (own_pays (W := 0) (rm_can l Z a0 hw o n (own_b (¬ (p3 &&& (1 : Int32)) = (0 : Int32))) h0 n0 Z0) hZ (hw _ (List.mem_of_getElem? (i := 5) rfl)) (hw _ (List.mem_of_getElem? (i := 4) rfl)) (by decide) (by decide)) (g := (mkF m 91 #[.val (.int p1), .val (.int p2), .val (.int p3), .val (.int o), .val (.int n), .val (.int (own_b (¬ (p3 &&& (1 : Int32)) = (0 : Int32)))), .val (.int (own_b (((n / (8 : Int32)) * (8 : Int32)) = n))), .val (.int (own_b (¬ ((65535 : Int32) - o) < n))), .val (.int (own_b (((n / (8 : Int32)) * (8 : Int32)) = n)))] [(.int (own_b (¬ (p3 &&& (1 : Int32)) = (0 : Int32)))), (.int n), (.int o)])) rfl (by rw [hml]; rfl) (argsL := [(.int o), (.int n), (.int (own_b (¬ (p3 &&& (1 : Int32)) = (0 : Int32))))]) (rest := []) (lenOf own_f4 rfl) rfl (by show 2 * 0 + _ ≤ _; exact Nat.le_of_eq rfl) (hb hby at_91) (fun _ _ => ⟨rfl, e0, (by decide : 0 + 0 ≤ _), (by decide : 0 + 0 ≤ _)⟩)
      dsimp only [Pt.U, Pt.locs, Pt.cells, Pt.slots] at X1 l1 y1 z1 st1 hQ1
      subst l1 y1 z1
      obtain ⟨rfl, rfl, e1⟩ := hQ1
      try rw [List.append_nil] at X1
      refine own_go (st1 _ (Steps.refl _)) ?_
      show own_Go p e below _ (T1.setTop (mkF m 94 #[.val (.int p1), .val (.int p2), .val (.int p3), .val (.int o), .val (.int n), .val (.int (own_b (¬ (p3 &&& (1 : Int32)) = (0 : Int32)))), .val (.int (own_b (((n / (8 : Int32)) * (8 : Int32)) = n))), .val (.int (own_b (¬ ((65535 : Int32) - o) < n))), .val (.int (own_b (((n / (8 : Int32)) * (8 : Int32)) = n)))] [(.int (own_can o n (own_b (¬ (p3 &&& (1 : Int32)) = (0 : Int32)))))]))
      refine own_go (XS.iload X1.here hx rfl (hb hby at_94) rfl (Steps.refl _)) ?_
      show own_Go p e below _ (T1.setTop (mkF m 96 #[.val (.int p1), .val (.int p2), .val (.int p3), .val (.int o), .val (.int n), .val (.int (own_b (¬ (p3 &&& (1 : Int32)) = (0 : Int32)))), .val (.int (own_b (((n / (8 : Int32)) * (8 : Int32)) = n))), .val (.int (own_b (¬ ((65535 : Int32) - o) < n))), .val (.int (own_b (((n / (8 : Int32)) * (8 : Int32)) = n)))] [(.int (own_b (((n / (8 : Int32)) * (8 : Int32)) = n))), (.int (own_can o n (own_b (¬ (p3 &&& (1 : Int32)) = (0 : Int32)))))]))
      refine own_go (XS.icmpNo X1.here hx rfl (hb hby at_96) rfl (teq (by unfold own_can own_b; simp [hc62, hc73, hf, hq])).2 (Steps.refl _)) ?_
      show own_Go p e below _ (T1.setTop (mkF m 99 #[.val (.int p1), .val (.int p2), .val (.int p3), .val (.int o), .val (.int n), .val (.int (own_b (¬ (p3 &&& (1 : Int32)) = (0 : Int32)))), .val (.int (own_b (((n / (8 : Int32)) * (8 : Int32)) = n))), .val (.int (own_b (¬ ((65535 : Int32) - o) < n))), .val (.int (own_b (((n / (8 : Int32)) * (8 : Int32)) = n)))] []))
      refine own_go (XS.iconst X1.here hx rfl (hb hby at_99) (Steps.refl _)) ?_
      show own_Go p e below _ (T1.setTop (mkF m 100 #[.val (.int p1), .val (.int p2), .val (.int p3), .val (.int o), .val (.int n), .val (.int (own_b (¬ (p3 &&& (1 : Int32)) = (0 : Int32)))), .val (.int (own_b (((n / (8 : Int32)) * (8 : Int32)) = n))), .val (.int (own_b (¬ ((65535 : Int32) - o) < n))), .val (.int (own_b (((n / (8 : Int32)) * (8 : Int32)) = n)))] [(.int (1 : Int32))]))
      refine own_go (XS.goto X1.here hx rfl (pc0 := 100) (pc' := 104) rfl (hb hby at_100) (by decide) (by decide) (Steps.refl _)) ?_
      show own_Go p e below _ (T1.setTop (mkF m 104 #[.val (.int p1), .val (.int p2), .val (.int p3), .val (.int o), .val (.int n), .val (.int (own_b (¬ (p3 &&& (1 : Int32)) = (0 : Int32)))), .val (.int (own_b (((n / (8 : Int32)) * (8 : Int32)) = n))), .val (.int (own_b (¬ ((65535 : Int32) - o) < n))), .val (.int (own_b (((n / (8 : Int32)) * (8 : Int32)) = n)))] [(.int (1 : Int32))]))
      exact own_retZ X1 hx hlk e1 Bd.returns (hb hby at_104) (Or.inr rfl) ⟨rfl, Fr.nil n0⟩ (by decide) (by decide)
    · refine own_go (XS.ifYes X0.here hx rfl (pc0 := 73) (pc' := 83) rfl (hb hby at_73) rfl ((if0 _ _).trans (teq (own_b_f hc73)).1) (by decide) (by decide) (Steps.refl _)) ?_
      show own_Go p e below _ (s₁.setTop (mkF m 83 #[.val (.int p1), .val (.int p2), .val (.int p3), .val (.int o), .val (.int n), .val (.int (own_b (¬ (p3 &&& (1 : Int32)) = (0 : Int32)))), .val (.int (own_b (((n / (8 : Int32)) * (8 : Int32)) = n))), .val (.int (own_b (¬ ((65535 : Int32) - o) < n))), .unset] []))
      refine own_go (XS.iconst X0.here hx rfl (hb hby at_83) (Steps.refl _)) ?_
      show own_Go p e below _ (s₁.setTop (mkF m 84 #[.val (.int p1), .val (.int p2), .val (.int p3), .val (.int o), .val (.int n), .val (.int (own_b (¬ (p3 &&& (1 : Int32)) = (0 : Int32)))), .val (.int (own_b (((n / (8 : Int32)) * (8 : Int32)) = n))), .val (.int (own_b (¬ ((65535 : Int32) - o) < n))), .unset] [(.int (1 : Int32))]))
      refine own_go (XS.istore X0.here hx rfl (hb hby at_84) rfl (l' := #[.val (.int p1), .val (.int p2), .val (.int p3), .val (.int o), .val (.int n), .val (.int (own_b (¬ (p3 &&& (1 : Int32)) = (0 : Int32)))), .val (.int (own_b (((n / (8 : Int32)) * (8 : Int32)) = n))), .val (.int (own_b (¬ ((65535 : Int32) - o) < n))), .val (.int (1 : Int32))]) rfl (Steps.refl _)) ?_
      show own_Go p e below _ (s₁.setTop (mkF m 86 #[.val (.int p1), .val (.int p2), .val (.int p3), .val (.int o), .val (.int n), .val (.int (own_b (¬ (p3 &&& (1 : Int32)) = (0 : Int32)))), .val (.int (own_b (((n / (8 : Int32)) * (8 : Int32)) = n))), .val (.int (own_b (¬ ((65535 : Int32) - o) < n))), .val (.int (1 : Int32))] []))
      refine own_go (XS.iloadN X0.here hx rfl (hb hby at_86) rfl (Steps.refl _)) ?_
      show own_Go p e below _ (s₁.setTop (mkF m 87 #[.val (.int p1), .val (.int p2), .val (.int p3), .val (.int o), .val (.int n), .val (.int (own_b (¬ (p3 &&& (1 : Int32)) = (0 : Int32)))), .val (.int (own_b (((n / (8 : Int32)) * (8 : Int32)) = n))), .val (.int (own_b (¬ ((65535 : Int32) - o) < n))), .val (.int (1 : Int32))] [(.int o)]))
      refine own_go (XS.iload X0.here hx rfl (hb hby at_87) rfl (Steps.refl _)) ?_
      show own_Go p e below _ (s₁.setTop (mkF m 89 #[.val (.int p1), .val (.int p2), .val (.int p3), .val (.int o), .val (.int n), .val (.int (own_b (¬ (p3 &&& (1 : Int32)) = (0 : Int32)))), .val (.int (own_b (((n / (8 : Int32)) * (8 : Int32)) = n))), .val (.int (own_b (¬ ((65535 : Int32) - o) < n))), .val (.int (1 : Int32))] [(.int n), (.int o)]))
      refine own_go (XS.iload X0.here hx rfl (hb hby at_89) rfl (Steps.refl _)) ?_
      show own_Go p e below _ (s₁.setTop (mkF m 91 #[.val (.int p1), .val (.int p2), .val (.int p3), .val (.int o), .val (.int n), .val (.int (own_b (¬ (p3 &&& (1 : Int32)) = (0 : Int32)))), .val (.int (own_b (((n / (8 : Int32)) * (8 : Int32)) = n))), .val (.int (own_b (¬ ((65535 : Int32) - o) < n))), .val (.int (1 : Int32))] [(.int (own_b (¬ (p3 &&& (1 : Int32)) = (0 : Int32)))), (.int n), (.int o)]))
      obtain ⟨_, _, ⟨T2, L2, k2, n2⟩, -, X2, ⟨Lc2, hQ2, l2, y2, z2⟩, st2⟩ := Jvm.LawKit.callS X0 hx (y := (⟨"com/example/shirase/shirase/capture/FragmentedPacket", "canBelong", "(IIZ)Z"⟩ : MethodName)) hown (mvT hZ (hw _ (List.mem_of_getElem? (i := 2) rfl))) (mvT hZ (hw _ (List.mem_of_getElem? (i := 3) rfl))) (mvT hZ (hw _ (List.mem_of_getElem? (i := 4) rfl))) (mvT hZ (hw _ (List.mem_of_getElem? (i := 5) rfl))) (by decide) (own_pays (W := 0) (rm_can l Z a0 hw o n (own_b (¬ (p3 &&& (1 : Int32)) = (0 : Int32))) h0 n0 Z0) hZ (hw _ (List.mem_of_getElem? (i := 5) rfl)) (hw _ (List.mem_of_getElem? (i := 4) rfl)) (by decide) (by decide)) (g := (mkF m 91 #[.val (.int p1), .val (.int p2), .val (.int p3), .val (.int o), .val (.int n), .val (.int (own_b (¬ (p3 &&& (1 : Int32)) = (0 : Int32)))), .val (.int (own_b (((n / (8 : Int32)) * (8 : Int32)) = n))), .val (.int (own_b (¬ ((65535 : Int32) - o) < n))), .val (.int (1 : Int32))] [(.int (own_b (¬ (p3 &&& (1 : Int32)) = (0 : Int32)))), (.int n), (.int o)])) rfl (by rw [hml]; rfl) (argsL := [(.int o), (.int n), (.int (own_b (¬ (p3 &&& (1 : Int32)) = (0 : Int32))))]) (rest := []) (lenOf own_f4 rfl) rfl (by show 2 * 0 + _ ≤ _; exact Nat.le_of_eq rfl) (hb hby at_91) (fun _ _ => ⟨rfl, e0, (by decide : 0 + 0 ≤ _), (by decide : 0 + 0 ≤ _)⟩)
      dsimp only [Pt.U, Pt.locs, Pt.cells, Pt.slots] at X2 l2 y2 z2 st2 hQ2
      subst l2 y2 z2
      obtain ⟨rfl, rfl, e2⟩ := hQ2
      try rw [List.append_nil] at X2
      refine own_go (st2 _ (Steps.refl _)) ?_
      show own_Go p e below _ (T2.setTop (mkF m 94 #[.val (.int p1), .val (.int p2), .val (.int p3), .val (.int o), .val (.int n), .val (.int (own_b (¬ (p3 &&& (1 : Int32)) = (0 : Int32)))), .val (.int (own_b (((n / (8 : Int32)) * (8 : Int32)) = n))), .val (.int (own_b (¬ ((65535 : Int32) - o) < n))), .val (.int (1 : Int32))] [(.int (own_can o n (own_b (¬ (p3 &&& (1 : Int32)) = (0 : Int32)))))]))
      refine own_go (XS.iload X2.here hx rfl (hb hby at_94) rfl (Steps.refl _)) ?_
      show own_Go p e below _ (T2.setTop (mkF m 96 #[.val (.int p1), .val (.int p2), .val (.int p3), .val (.int o), .val (.int n), .val (.int (own_b (¬ (p3 &&& (1 : Int32)) = (0 : Int32)))), .val (.int (own_b (((n / (8 : Int32)) * (8 : Int32)) = n))), .val (.int (own_b (¬ ((65535 : Int32) - o) < n))), .val (.int (1 : Int32))] [(.int (1 : Int32)), (.int (own_can o n (own_b (¬ (p3 &&& (1 : Int32)) = (0 : Int32)))))]))
      refine own_go (XS.icmpNo X2.here hx rfl (hb hby at_96) rfl (teq (by unfold own_can own_b; simp [hc62, hc73, hf, hq])).2 (Steps.refl _)) ?_
      show own_Go p e below _ (T2.setTop (mkF m 99 #[.val (.int p1), .val (.int p2), .val (.int p3), .val (.int o), .val (.int n), .val (.int (own_b (¬ (p3 &&& (1 : Int32)) = (0 : Int32)))), .val (.int (own_b (((n / (8 : Int32)) * (8 : Int32)) = n))), .val (.int (own_b (¬ ((65535 : Int32) - o) < n))), .val (.int (1 : Int32))] []))
      refine own_go (XS.iconst X2.here hx rfl (hb hby at_99) (Steps.refl _)) ?_
      show own_Go p e below _ (T2.setTop (mkF m 100 #[.val (.int p1), .val (.int p2), .val (.int p3), .val (.int o), .val (.int n), .val (.int (own_b (¬ (p3 &&& (1 : Int32)) = (0 : Int32)))), .val (.int (own_b (((n / (8 : Int32)) * (8 : Int32)) = n))), .val (.int (own_b (¬ ((65535 : Int32) - o) < n))), .val (.int (1 : Int32))] [(.int (1 : Int32))]))
      refine own_go (XS.goto X2.here hx rfl (pc0 := 100) (pc' := 104) rfl (hb hby at_100) (by decide) (by decide) (Steps.refl _)) ?_
      show own_Go p e below _ (T2.setTop (mkF m 104 #[.val (.int p1), .val (.int p2), .val (.int p3), .val (.int o), .val (.int n), .val (.int (own_b (¬ (p3 &&& (1 : Int32)) = (0 : Int32)))), .val (.int (own_b (((n / (8 : Int32)) * (8 : Int32)) = n))), .val (.int (own_b (¬ ((65535 : Int32) - o) < n))), .val (.int (1 : Int32))] [(.int (1 : Int32))]))
      exact own_retZ X2 hx hlk e2 Bd.returns (hb hby at_104) (Or.inr rfl) ⟨rfl, Fr.nil n0⟩ (by decide) (by decide)
  · refine own_go (XS.ifNo X0.here hx rfl (hb hby at_62) rfl ((if0 _ _).trans (teq (own_b_f hc62)).2) (Steps.refl _)) ?_
    show own_Go p e below _ (s₁.setTop (mkF m 65 #[.val (.int p1), .val (.int p2), .val (.int p3), .val (.int o), .val (.int n), .val (.int (own_b (¬ (p3 &&& (1 : Int32)) = (0 : Int32)))), .val (.int (own_b (((n / (8 : Int32)) * (8 : Int32)) = n))), .val (.int (own_b (¬ ((65535 : Int32) - o) < n))), .unset] []))
    refine own_go (XS.iconst X0.here hx rfl (hb hby at_65) (Steps.refl _)) ?_
    show own_Go p e below _ (s₁.setTop (mkF m 66 #[.val (.int p1), .val (.int p2), .val (.int p3), .val (.int o), .val (.int n), .val (.int (own_b (¬ (p3 &&& (1 : Int32)) = (0 : Int32)))), .val (.int (own_b (((n / (8 : Int32)) * (8 : Int32)) = n))), .val (.int (own_b (¬ ((65535 : Int32) - o) < n))), .unset] [(.int (0 : Int32))]))
    refine own_go (XS.istore X0.here hx rfl (hb hby at_66) rfl (l' := #[.val (.int p1), .val (.int p2), .val (.int p3), .val (.int o), .val (.int n), .val (.int (own_b (¬ (p3 &&& (1 : Int32)) = (0 : Int32)))), .val (.int (own_b (((n / (8 : Int32)) * (8 : Int32)) = n))), .val (.int (own_b (¬ ((65535 : Int32) - o) < n))), .val (.int (0 : Int32))]) rfl (Steps.refl _)) ?_
    show own_Go p e below _ (s₁.setTop (mkF m 68 #[.val (.int p1), .val (.int p2), .val (.int p3), .val (.int o), .val (.int n), .val (.int (own_b (¬ (p3 &&& (1 : Int32)) = (0 : Int32)))), .val (.int (own_b (((n / (8 : Int32)) * (8 : Int32)) = n))), .val (.int (own_b (¬ ((65535 : Int32) - o) < n))), .val (.int (0 : Int32))] []))
    refine own_go (XS.goto X0.here hx rfl (pc0 := 68) (pc' := 86) rfl (hb hby at_68) (by decide) (by decide) (Steps.refl _)) ?_
    show own_Go p e below _ (s₁.setTop (mkF m 86 #[.val (.int p1), .val (.int p2), .val (.int p3), .val (.int o), .val (.int n), .val (.int (own_b (¬ (p3 &&& (1 : Int32)) = (0 : Int32)))), .val (.int (own_b (((n / (8 : Int32)) * (8 : Int32)) = n))), .val (.int (own_b (¬ ((65535 : Int32) - o) < n))), .val (.int (0 : Int32))] []))
    refine own_go (XS.iloadN X0.here hx rfl (hb hby at_86) rfl (Steps.refl _)) ?_
    show own_Go p e below _ (s₁.setTop (mkF m 87 #[.val (.int p1), .val (.int p2), .val (.int p3), .val (.int o), .val (.int n), .val (.int (own_b (¬ (p3 &&& (1 : Int32)) = (0 : Int32)))), .val (.int (own_b (((n / (8 : Int32)) * (8 : Int32)) = n))), .val (.int (own_b (¬ ((65535 : Int32) - o) < n))), .val (.int (0 : Int32))] [(.int o)]))
    refine own_go (XS.iload X0.here hx rfl (hb hby at_87) rfl (Steps.refl _)) ?_
    show own_Go p e below _ (s₁.setTop (mkF m 89 #[.val (.int p1), .val (.int p2), .val (.int p3), .val (.int o), .val (.int n), .val (.int (own_b (¬ (p3 &&& (1 : Int32)) = (0 : Int32)))), .val (.int (own_b (((n / (8 : Int32)) * (8 : Int32)) = n))), .val (.int (own_b (¬ ((65535 : Int32) - o) < n))), .val (.int (0 : Int32))] [(.int n), (.int o)]))
    refine own_go (XS.iload X0.here hx rfl (hb hby at_89) rfl (Steps.refl _)) ?_
    show own_Go p e below _ (s₁.setTop (mkF m 91 #[.val (.int p1), .val (.int p2), .val (.int p3), .val (.int o), .val (.int n), .val (.int (own_b (¬ (p3 &&& (1 : Int32)) = (0 : Int32)))), .val (.int (own_b (((n / (8 : Int32)) * (8 : Int32)) = n))), .val (.int (own_b (¬ ((65535 : Int32) - o) < n))), .val (.int (0 : Int32))] [(.int (own_b (¬ (p3 &&& (1 : Int32)) = (0 : Int32)))), (.int n), (.int o)]))
    obtain ⟨_, _, ⟨T3, L3, k3, n3⟩, -, X3, ⟨Lc3, hQ3, l3, y3, z3⟩, st3⟩ := Jvm.LawKit.callS X0 hx (y := (⟨"com/example/shirase/shirase/capture/FragmentedPacket", "canBelong", "(IIZ)Z"⟩ : MethodName)) hown (mvT hZ (hw _ (List.mem_of_getElem? (i := 2) rfl))) (mvT hZ (hw _ (List.mem_of_getElem? (i := 3) rfl))) (mvT hZ (hw _ (List.mem_of_getElem? (i := 4) rfl))) (mvT hZ (hw _ (List.mem_of_getElem? (i := 5) rfl))) (by decide) (own_pays (W := 0) (rm_can l Z a0 hw o n (own_b (¬ (p3 &&& (1 : Int32)) = (0 : Int32))) h0 n0 Z0) hZ (hw _ (List.mem_of_getElem? (i := 5) rfl)) (hw _ (List.mem_of_getElem? (i := 4) rfl)) (by decide) (by decide)) (g := (mkF m 91 #[.val (.int p1), .val (.int p2), .val (.int p3), .val (.int o), .val (.int n), .val (.int (own_b (¬ (p3 &&& (1 : Int32)) = (0 : Int32)))), .val (.int (own_b (((n / (8 : Int32)) * (8 : Int32)) = n))), .val (.int (own_b (¬ ((65535 : Int32) - o) < n))), .val (.int (0 : Int32))] [(.int (own_b (¬ (p3 &&& (1 : Int32)) = (0 : Int32)))), (.int n), (.int o)])) rfl (by rw [hml]; rfl) (argsL := [(.int o), (.int n), (.int (own_b (¬ (p3 &&& (1 : Int32)) = (0 : Int32))))]) (rest := []) (lenOf own_f4 rfl) rfl (by show 2 * 0 + _ ≤ _; exact Nat.le_of_eq rfl) (hb hby at_91) (fun _ _ => ⟨rfl, e0, (by decide : 0 + 0 ≤ _), (by decide : 0 + 0 ≤ _)⟩)
    dsimp only [Pt.U, Pt.locs, Pt.cells, Pt.slots] at X3 l3 y3 z3 st3 hQ3
    subst l3 y3 z3
    obtain ⟨rfl, rfl, e3⟩ := hQ3
    try rw [List.append_nil] at X3
    refine own_go (st3 _ (Steps.refl _)) ?_
    show own_Go p e below _ (T3.setTop (mkF m 94 #[.val (.int p1), .val (.int p2), .val (.int p3), .val (.int o), .val (.int n), .val (.int (own_b (¬ (p3 &&& (1 : Int32)) = (0 : Int32)))), .val (.int (own_b (((n / (8 : Int32)) * (8 : Int32)) = n))), .val (.int (own_b (¬ ((65535 : Int32) - o) < n))), .val (.int (0 : Int32))] [(.int (own_can o n (own_b (¬ (p3 &&& (1 : Int32)) = (0 : Int32)))))]))
    refine own_go (XS.iload X3.here hx rfl (hb hby at_94) rfl (Steps.refl _)) ?_
    show own_Go p e below _ (T3.setTop (mkF m 96 #[.val (.int p1), .val (.int p2), .val (.int p3), .val (.int o), .val (.int n), .val (.int (own_b (¬ (p3 &&& (1 : Int32)) = (0 : Int32)))), .val (.int (own_b (((n / (8 : Int32)) * (8 : Int32)) = n))), .val (.int (own_b (¬ ((65535 : Int32) - o) < n))), .val (.int (0 : Int32))] [(.int (0 : Int32)), (.int (own_can o n (own_b (¬ (p3 &&& (1 : Int32)) = (0 : Int32)))))]))
    refine own_go (XS.icmpNo X3.here hx rfl (hb hby at_96) rfl (teq (by unfold own_can own_b; simp [hc62, hf, hq])).2 (Steps.refl _)) ?_
    show own_Go p e below _ (T3.setTop (mkF m 99 #[.val (.int p1), .val (.int p2), .val (.int p3), .val (.int o), .val (.int n), .val (.int (own_b (¬ (p3 &&& (1 : Int32)) = (0 : Int32)))), .val (.int (own_b (((n / (8 : Int32)) * (8 : Int32)) = n))), .val (.int (own_b (¬ ((65535 : Int32) - o) < n))), .val (.int (0 : Int32))] []))
    refine own_go (XS.iconst X3.here hx rfl (hb hby at_99) (Steps.refl _)) ?_
    show own_Go p e below _ (T3.setTop (mkF m 100 #[.val (.int p1), .val (.int p2), .val (.int p3), .val (.int o), .val (.int n), .val (.int (own_b (¬ (p3 &&& (1 : Int32)) = (0 : Int32)))), .val (.int (own_b (((n / (8 : Int32)) * (8 : Int32)) = n))), .val (.int (own_b (¬ ((65535 : Int32) - o) < n))), .val (.int (0 : Int32))] [(.int (1 : Int32))]))
    refine own_go (XS.goto X3.here hx rfl (pc0 := 100) (pc' := 104) rfl (hb hby at_100) (by decide) (by decide) (Steps.refl _)) ?_
    show own_Go p e below _ (T3.setTop (mkF m 104 #[.val (.int p1), .val (.int p2), .val (.int p3), .val (.int o), .val (.int n), .val (.int (own_b (¬ (p3 &&& (1 : Int32)) = (0 : Int32)))), .val (.int (own_b (((n / (8 : Int32)) * (8 : Int32)) = n))), .val (.int (own_b (¬ ((65535 : Int32) - o) < n))), .val (.int (0 : Int32))] [(.int (1 : Int32))]))
    exact own_retZ X3 hx hlk e3 Bd.returns (hb hby at_104) (Or.inr rfl) ⟨rfl, Fr.nil n0⟩ (by decide) (by decide)
set_option maxRecDepth 65536 in
set_option maxHeartbeats 40000000 in
theorem comes_1 {Post : Tables → Env → Array Value → State → Outcome → State → Prop} (hpost : ∀ tb e args s v u, (limb_1_1.after args s (.returned v) u = true ∧ limb_1_2.after args s (.returned v) u = true ∧ True) → FrameEnd s (.returned v) u (Jvm.fieldLocs frame_1_writes args s ++ Jvm.arrayLocs frame_1_arrays args s ++ Jvm.staticLocs frame_1_statics s) 0 0 → Post tb e args s (.returned v) u) :
    ArmFor flags0 classFile x code maxLocals ret World_1 tables_1 room_1 Calls_1 rest_1 Pre_1 Post := by
  intro l hfl _ _ p e ha hc hk s m args below hf hA hF happ hP
  obtain ⟨hcalls, hrest, hpre⟩ := hP
  obtain ⟨-, -, -, hnamed, -, -, -, hat⟩ := (Spec.applies_iff hf).mp happ
  obtain ⟨hg, hn⟩ := and_e (Cond.before_iff.mp (show (Jvm.Cond.and given_1 narrow_1).before args s = true from hpre))
  obtain ⟨gc, ga0⟩ := and_e hg
  obtain ⟨w0, w1, w2, rfl⟩ : ∃ w0 w1 w2 : Value, args = #[w0, w1, w2] := by
    have hs : args.size = 3 := by simpa [Cond.value, given_1] using gc
    obtain ⟨L⟩ := args
    match L, hs with
    | [w0, w1, w2], _ => exact ⟨w0, w1, w2, rfl⟩
  have hw := fun d (hd : d ∈ tables_1) => atoms_spec (ws := Jvm.Cond.code x code maxLocals ret :: tables_1) hat d (List.mem_cons_of_mem _ hd)
  obtain ⟨gb0, ga1⟩ := and_e ga0
  obtain ⟨i0, ei0⟩ := is_v gb0
  obtain rfl : w0 = (.int i0) := Option.some.inj ei0
  obtain ⟨gb1, ga2⟩ := and_e ga1
  obtain ⟨i1, ei1⟩ := is_v gb1
  obtain rfl : w1 = (.int i1) := Option.some.inj ei1
  obtain ⟨i2, ei2⟩ := is_v ga2
  obtain rfl : w2 = (.int i2) := Option.some.inj ei2
  obtain ⟨n, o, h1, h2, h3, _, L, rfl, ⟨rfl, N⟩, hq⟩ := rm_law l s _ hw i0 i1 i2 s.heap s.heap.size (Nat.le_refl _) p e ha hc hk s m _ below hf ((Spec.applies_iff_loose hf).mp happ).1 ⟨rfl, State.Warmed39.refl s, rfl⟩ trivial
  exact ⟨n, _, h1, h2, h3, hpost _ _ _ _ _ _ ⟨Cond.after_iff.mpr rfl, Cond.after_iff.mpr (eq_i res_at (Term.int_eval (1)) rfl), trivial⟩ ⟨hq.1, hq.2.1, (hq.2.2.sift fun y hy => Or.inr (N y hy)).mono (by decide) (by decide)⟩⟩
theorem main_1_1 : Claimed_1_1 := comes_1 fun _ _ _ _ _ _ h hF => ⟨h.1, hF⟩
theorem main_1_2 : Claimed_1_2 := comes_1 fun _ _ _ _ _ _ h hF => ⟨h.2.1, hF⟩
end Jvm.Pilot.@@N@@
namespace Jvm.Pilot.@@N@@
open Jvm Jvm.ClassFile Sem Op Lib Jvm.Free Jvm.Stand Jvm.Pilot.@@N@@.Jvm.D
/-! MADE BY PROGRAM (witnessworld.py) out of the Statement's table words and the real class files: 9 classes; the members and pool entries that the words name. The judged class is class 1, her method 1. -/
namespace start1
open Jvm.ClassFile
def u (s : String) : CpInfo := .utf8 (stringToUtf16 s)
/-- a pool by its gaps: so many unusable entries, then the entry; so many at the end -/
def gap : Nat → List CpInfo → List CpInfo
  | 0, r => r
  | n + 1, r => .unusable :: gap n r
def poolList (es : List (Nat × CpInfo)) (last : Nat) : List CpInfo := es.foldr (fun e r => gap e.1 (e.2 :: r)) (gap last [])
def pool (es : List (Nat × CpInfo)) (last : Nat) : Array CpInfo := ⟨poolList es last⟩
def fileOf (pool : Array CpInfo) (this : Nat) (attrs : Array Attribute := #[]) (ms : Array MethodInfo := #[]) (fl : Nat := 33) (sup : Nat := 0) (ifs : Array Nat := #[]) (fds : Array FieldInfo := #[]) : ClassFile where
  minorVersion := 0
  majorVersion := 65
  constantPool := pool
  accessFlags := fl
  thisClass := this
  superClass := sup
  interfaces := ifs
  fields := fds
  methods := ms
  attributes := attrs
def plain (name : String) (sup : Option ClassId) : Class where
  name := name
  kind := .ordinary
  loader := none
  accessFlags := 33
  super := sup
  interfaces := #[]
  cf := none
  fields := #[]
  methods := #[]
  instanceTypes := #[]
  staticTypes := #[]
  resolved := #[]
  callSites := []
  init := .initialized
  statics := none
  mirror := none

def pool0 : Array CpInfo := pool [(5, u "<init>"), (0, u "()V"), (1, .class_ 10), (1, u "java/lang/Object")] 113

def k0m0 : Method := { name := "<init>", desc := "()V", sig := { parameters := [], returnType := none }, accessFlags := 1, code := none }
/-- java/lang/Object -/
def k0 : Class := { plain "java/lang/Object" none with
  accessFlags := 33
  interfaces := #[]
  cf := some (fileOf pool0 8 #[] #[{ accessFlags := 1, nameIndex := 5, descriptorIndex := 6, attributes := #[] }] 33 0 #[] #[])
  fields := #[]
  methods := #[k0m0]
  instanceTypes := #[]
  staticTypes := #[]
  resolved := Array.replicate 124 none
  statics := none }

def pool1 : Array CpInfo := pool [(2, .class_ 4), (1, u "java/lang/Object"), (0, u "<init>"), (0, u "()V"), (0, .integer 1073741823), (0, .integer 65535), (0, .methodref 10 11), (0, .class_ 12), (0, .nameAndType 13 14), (0, u "com/example/shirase/shirase/capture/FragmentedPacket"), (0, u "canBelong"), (0, u "(IIZ)Z"), (0, .class_ 16), (0, u "com/example/shirase/shirase/capture/FragmentedPacketCanBelongPinLaw"), (2, u "law"), (0, u "(III)Z")] 3

def k1m0 : Method := { name := "<init>", desc := "()V", sig := { parameters := [], returnType := none }, accessFlags := 1, code := none }
def k1c1 : Code := { maxStack := 3, maxLocals := 9, code := code, exceptionTable := #[], attributes := #[] }
def k1m1 : Method := { name := "law", desc := "(III)Z", sig := { parameters := [.int, .int, .int], returnType := some .boolean }, accessFlags := 9, code := some k1c1 }
/-- com/example/shirase/shirase/capture/FragmentedPacketCanBelongPinLaw -/
def k1 : Class := { plain "com/example/shirase/shirase/capture/FragmentedPacketCanBelongPinLaw" (some 0) with
  accessFlags := 49
  interfaces := #[]
  cf := some (fileOf pool1 15 #[] #[{ accessFlags := 1, nameIndex := 5, descriptorIndex := 6, attributes := #[] }, { accessFlags := 9, nameIndex := 19, descriptorIndex := 20, attributes := #[] }] 49 2 #[] #[])
  fields := #[]
  methods := #[k1m0, k1m1]
  instanceTypes := #[]
  staticTypes := #[]
  resolved := Array.replicate 24 none
  statics := none }

def pool2 : Array CpInfo := pool [(2, .class_ 4), (1, u "java/lang/Object"), (3, .class_ 10), (1, u "com/example/shirase/shirase/capture/FragmentedPacket"), (0, u "NO_OCTETS"), (0, u "[B"), (2, u "octets"), (5, u "blocks"), (0, u "Ljava/util/BitSet;"), (2, u "end"), (0, u "I"), (2, u "type"), (2, u "firstArrival"), (0, u "Ljava/time/Instant;"), (2, u "lastArrival"), (2, u "source"), (0, u "Ljava/net/InetAddress;"), (0, .integer 65535), (4, u "abandoned"), (0, u "Z"), (30, u "furthest"), (36, u "BLOCK"), (2, u "MAX_LENGTH"), (0, u "BOOKKEEPING"), (1, u "UNKNOWN"), (4, u "canBelong"), (0, u "(IIZ)Z")] 17

def k2c0 : Code := { maxStack := 2, maxLocals := 3, code := prog_12_method_2_code, exceptionTable := #[], attributes := #[] }
def k2m0 : Method := { name := "canBelong", desc := "(IIZ)Z", sig := { parameters := [.int, .int, .boolean], returnType := some .boolean }, accessFlags := 8, code := some k2c0 }
/-- com/example/shirase/shirase/capture/FragmentedPacket -/
def k2 : Class := { plain "com/example/shirase/shirase/capture/FragmentedPacket" (some 0) with
  accessFlags := 32
  interfaces := #[]
  cf := some (fileOf pool2 8 #[] #[{ accessFlags := 8, nameIndex := 126, descriptorIndex := 127, attributes := #[] }] 32 2 #[] #[{ accessFlags := 24, nameIndex := 115, descriptorIndex := 26, attributes := #[] }, { accessFlags := 24, nameIndex := 118, descriptorIndex := 26, attributes := #[] }, { accessFlags := 24, nameIndex := 119, descriptorIndex := 26, attributes := #[] }, { accessFlags := 26, nameIndex := 121, descriptorIndex := 26, attributes := #[] }, { accessFlags := 26, nameIndex := 11, descriptorIndex := 12, attributes := #[] }, { accessFlags := 18, nameIndex := 32, descriptorIndex := 33, attributes := #[] }, { accessFlags := 2, nameIndex := 36, descriptorIndex := 33, attributes := #[] }, { accessFlags := 18, nameIndex := 39, descriptorIndex := 40, attributes := #[] }, { accessFlags := 2, nameIndex := 15, descriptorIndex := 12, attributes := #[] }, { accessFlags := 2, nameIndex := 21, descriptorIndex := 22, attributes := #[] }, { accessFlags := 2, nameIndex := 25, descriptorIndex := 26, attributes := #[] }, { accessFlags := 2, nameIndex := 78, descriptorIndex := 26, attributes := #[] }, { accessFlags := 2, nameIndex := 29, descriptorIndex := 26, attributes := #[] }, { accessFlags := 2, nameIndex := 46, descriptorIndex := 47, attributes := #[] }])
  fields := #[{ name := "BLOCK", type := .int, accessFlags := 24, slot := 0, constantValue := 0 }, { name := "MAX_LENGTH", type := .int, accessFlags := 24, slot := 1, constantValue := 0 }, { name := "BOOKKEEPING", type := .int, accessFlags := 24, slot := 2, constantValue := 0 }, { name := "UNKNOWN", type := .int, accessFlags := 26, slot := 3, constantValue := 0 }, { name := "NO_OCTETS", type := (.array .byte), accessFlags := 26, slot := 4, constantValue := 0 }, { name := "firstArrival", type := (.object "java/time/Instant"), accessFlags := 18, slot := 0, constantValue := 0 }, { name := "lastArrival", type := (.object "java/time/Instant"), accessFlags := 2, slot := 1, constantValue := 0 }, { name := "source", type := (.object "java/net/InetAddress"), accessFlags := 18, slot := 2, constantValue := 0 }, { name := "octets", type := (.array .byte), accessFlags := 2, slot := 3, constantValue := 0 }, { name := "blocks", type := (.object "java/util/BitSet"), accessFlags := 2, slot := 4, constantValue := 0 }, { name := "end", type := .int, accessFlags := 2, slot := 5, constantValue := 0 }, { name := "furthest", type := .int, accessFlags := 2, slot := 6, constantValue := 0 }, { name := "type", type := .int, accessFlags := 2, slot := 7, constantValue := 0 }, { name := "abandoned", type := .boolean, accessFlags := 2, slot := 8, constantValue := 0 }]
  methods := #[k2m0]
  instanceTypes := #[(.object "java/time/Instant"), (.object "java/time/Instant"), (.object "java/net/InetAddress"), (.array .byte), (.object "java/util/BitSet"), .int, .int, .int, .boolean]
  staticTypes := #[.int, .int, .int, .int, (.array .byte)]
  resolved := Array.replicate 145 none
  statics := none }

def pool3 : Array CpInfo := pool [(1, u "java/lang/Cloneable"), (0, .class_ 1), (0, u "java/lang/Object"), (0, .class_ 3)] 3

/-- java/lang/Cloneable -/
def k3 : Class := { plain "java/lang/Cloneable" (some 0) with
  accessFlags := 1537
  interfaces := #[]
  cf := some (fileOf pool3 2 #[] #[] 1537 4 #[] #[])
  fields := #[]
  methods := #[]
  instanceTypes := #[]
  staticTypes := #[]
  resolved := Array.replicate 8 none
  statics := none }

def pool4 : Array CpInfo := pool [(1, u "java/io/Serializable"), (0, .class_ 1), (0, u "java/lang/Object"), (0, .class_ 3)] 3

/-- java/io/Serializable -/
def k4 : Class := { plain "java/io/Serializable" (some 0) with
  accessFlags := 1537
  interfaces := #[]
  cf := some (fileOf pool4 2 #[] #[] 1537 4 #[] #[])
  fields := #[]
  methods := #[]
  instanceTypes := #[]
  staticTypes := #[]
  resolved := Array.replicate 8 none
  statics := none }

/-- the primitive byte -/
def k5 : Class := { plain "byte" none with kind := .primitive 'B', accessFlags := 0x411 }
/-- [B -/
def k6 : Class := { plain "[B" (some 0) with kind := .array 5 .byte, interfaces := #[3, 4], accessFlags := 1041 }

/-- the primitive int -/
def k7 : Class := { plain "int" none with kind := .primitive 'I', accessFlags := 0x411 }
/-- [I -/
def k8 : Class := { plain "[I" (some 0) with kind := .array 7 .int, interfaces := #[3, 4], accessFlags := 1041 }

def heap : Heap := #[]
def classes : Array Class := #[k0, k1, k2, k3, k4, k5, k6, k7, k8]
def interned : List (Array UInt16 × Addr) := []
def slotsUsed : Nat := 0
def theMethod : MethodId := ⟨1, 1⟩
def args0 : Array Value := #[.int 5, .int 8, .int 1]
def aboutOver (below : List Frame) : State where
  vm := { classes := classes, interned := interned.toArray }
  heap := heap
  slotsUsed := slotsUsed
  threads := #[{ frames := .invoking theMethod args0 :: below }]
def below0 : List Frame := [.native { method := ⟨0, 0⟩, args := #[] }]
def about1 : State := aboutOver below0
def p0 : Program := .bare "" "" ""
def e0 : Env := launch0.env 0 0 0
theorem w_frames : about1.frames = Frame.invoking theMethod args0 :: below0 := rfl
set_option maxRecDepth 65536 in
theorem w_args : argsFit about1.vm theMethod args0 = true := by decide +kernel
set_option maxRecDepth 65536 in
theorem w_heap : heapFits about1 = true := by decide +kernel
set_option maxRecDepth 65536 in
theorem w_runnable : about1.curStatus? = some .runnable := by decide +kernel
set_option maxRecDepth 65536 in
theorem w_alone : about1.alone = true := by decide +kernel
set_option maxRecDepth 65536 in
theorem w_named : about1.methodNamed? x = some theMethod := by decide +kernel
set_option maxRecDepth 65536 in
theorem w_hears : about1.hears theMethod below0 = true := by decide +kernel
set_option maxRecDepth 65536 in
theorem w_ripe : about1.ripe theMethod args0 below0 = true := by decide +kernel
theorem w_running : about1.status = .running := rfl
set_option maxRecDepth 65536 in
theorem w_room : about1.hasRoom e0.platform room_1 = true :=
  launch0.hasRoom_least _ room_1 (by decide +kernel) (by decide +kernel) (by decide +kernel) (by decide +kernel) (by decide +kernel) (by decide +kernel)
theorem allAtoms_all (ts : List Jvm.Cond) (a : Array Jvm.Value) (st : Jvm.State) : (allAtoms ts).before a st = ts.all (fun c => c.before a st) := by
  induction ts with
  | nil => rfl
  | cons c t ih =>
    show (Jvm.Cond.and c (allAtoms t)).before a st = _
    rw [Jvm.Cond.before_and, ih, List.all_cons]
def words1 : List Jvm.Cond := Jvm.Cond.code x code maxLocals ret :: tables_1
/-- a 'code' word, met by the world's own term for the bytes: nothing is compared byte by byte -/
theorem code_word {y : MethodName} {bytes : ByteArray} {mx : Nat} {rt : Option FieldType} {a : Array Value} {s : State} {m : MethodId} {meth : Method} {c : Code} (h1 : s.methodNamed? y = some m) (h2 : s.vm.method? m = some meth) (h3 : meth.code = some c) (h4 : c.code = bytes)
    (h5 : (c.maxLocals == mx && c.exceptionTable.isEmpty && decide (c.maxStack ≤ mostOperands) && decide (meth.sig.returnType = rt) && !meth.locks && decide (parseMethodDescriptor y.desc = some meth.sig)) = true) : (Jvm.Cond.code y bytes mx rt).before a s = true := by
  simp only [Bool.and_eq_true, beq_iff_eq, Bool.not_eq_true', decide_eq_true_eq] at h5
  obtain ⟨⟨⟨⟨⟨g1, g2⟩, g3⟩, g4⟩, g5⟩, g6⟩ := h5
  simp [Cond.before, Cond.holds, Cond.value, h1, h2, h3, h4, g1, g2, g3, g4, g5, g6]
def isCode : Jvm.Cond → Bool
  | .code _ _ _ _ => true
  | _ => false
theorem all_split {L : List Jvm.Cond} {P : Jvm.Cond → Bool} (h1 : L.all (fun c => isCode c || P c) = true) (h2 : ∀ c ∈ L.filter isCode, P c = true) : L.all P = true := by
  refine List.all_eq_true.mpr fun c hc => ?_
  have h := List.all_eq_true.mp h1 c hc
  rcases Bool.eq_false_or_eq_true (isCode c) with hi | hi
  · exact h2 c (List.mem_filter.mpr ⟨hc, hi⟩)
  · simpa [hi] using h
set_option maxRecDepth 65536 in
theorem w_c0 : (Jvm.Cond.code x code maxLocals ret).before args0 about1 = true := code_word (m := ⟨1, 1⟩) (meth := k1m1) (c := k1c1) (by decide +kernel) rfl rfl rfl (by decide +kernel)
set_option maxRecDepth 65536 in
theorem w_c1 : (Jvm.Cond.code ({ cls := "com/example/shirase/shirase/capture/FragmentedPacket", name := "canBelong", desc := "(IIZ)Z" } : Jvm.MethodName) prog_12_method_2_code (3 : Nat) (Option.some Jvm.ClassFile.FieldType.boolean)).before args0 about1 = true := code_word (m := ⟨2, 0⟩) (meth := k2m0) (c := k2c0) (by decide +kernel) rfl rfl rfl (by decide +kernel)
def codes1 : List Jvm.Cond := [Jvm.Cond.code x code maxLocals ret, Jvm.Cond.code ({ cls := "com/example/shirase/shirase/capture/FragmentedPacket", name := "canBelong", desc := "(IIZ)Z" } : Jvm.MethodName) prog_12_method_2_code (3 : Nat) (Option.some Jvm.ClassFile.FieldType.boolean)]
set_option maxRecDepth 65536 in
theorem codes_eq : words1.filter isCode = codes1 := rfl
theorem w_codes : ∀ c ∈ words1.filter isCode, c.before args0 about1 = true := by
  rw [codes_eq]
  intro c hc
  simp only [codes1, List.mem_cons, List.not_mem_nil, or_false] at hc
  rcases hc with rfl | rfl
  · exact w_c0
  · exact w_c1
set_option maxRecDepth 65536 in
theorem w_t1 : words1.all (fun c => isCode c || c.before args0 about1) = true := by decide +kernel
theorem w_tables : (allAtoms (Jvm.Cond.code x code maxLocals ret :: tables_1)).before args0 about1 = true := by
  rw [allAtoms_all]
  show words1.all (fun c => c.before args0 about1) = true
  refine all_split ?_ w_codes
  rw [w_t1]
set_option maxRecDepth 65536 in
theorem w_case : (Jvm.Cond.and given_1 narrow_1).before args0 about1 = true := by decide +kernel
theorem w_applies : (headSpec (Jvm.Cond.code x code maxLocals ret :: tables_1) room_1).applies x e0.platform about1 = true :=
  (Spec.applies_iff w_frames).mpr ⟨w_running, w_runnable, w_alone, w_named, w_hears, w_ripe, w_room, w_tables⟩
theorem atStart : AtStart classFile x code maxLocals ret World_1 tables_1 room_1 Calls_1 rest_1 Pre_1 launch0 p0 e0 about1 theMethod args0 below0 :=
  ⟨lists_1, trivial, launch0.admits_env _ _ _, launch0.least_env, fairChoices_fair.cas, fairChoices_fair.clock, w_frames, w_args, w_heap, w_applies, trivial, trivial, w_case⟩
end start1
theorem witness_1 : WitnessClaimed_1 := ⟨start1.p0, start1.e0, start1.about1, start1.theMethod, start1.args0, start1.below0, start1.atStart⟩
end Jvm.Pilot.@@N@@
