import JvmDerived
import JvmDerived.Pilot.@@N@@Statement
import JvmDerived.Pilot.@@N@@Code
set_option linter.unusedVariables false
set_option linter.unusedSimpArgs false
namespace Jvm.RoadKit
open Sem ClassFile Op Lib Jvm.Stand Jvm.Free Jvm.LawKit
section New
variable {p : Program} {l : Launch} {e : Env} {R : Room} {s : State} {m : MethodId} {args : Array Value} {below : List Frame} {meth : Method} {c : Code} {T : State} {locs : List Loc} {cells slots : Nat}
theorem retI (X : Stand p l e R s m args below meth c T locs cells slots) (hx : p.tables.exec = Jvm.exec) {pc : Nat} {Ls : Array Slot} {z : Int32} {rest : List Value} (hret : meth.sig.returnType = some .int) (hd : decode c.code pc = .ok (.ireturn, 1)) {fs : List Frame}
    (hl : ∀ (f : JFrame) (acts : List Action), f.method = m → f.locked = none → f.entered = [] → (doReturn e (T.setTop f) acts (some (.int z))).1 = T.setFrames fs) : Steps p.tables e below (T.setTop (mkF m pc Ls (.int z :: rest))) (T.setFrames fs) := by
  have hm' : T.vm.method? m = some meth := X.method'
  have hn : narrow .int (.int z) = .int z := rfl
  show Steps p.tables e below (T.setTop { method := m, pc := pc, locals := Ls, stack := _ :: rest, locked := none }) _
  jvm_step X.here [X.here.top, hx, hd, hm', hret, hn]
  first | (intro acts; rw [hl _ acts rfl rfl rfl]) | rw [hl _ _ rfl rfl rfl]
  exact Steps.refl _
end New
end Jvm.RoadKit
namespace Jvm.Pilot.@@N@@
open Jvm Jvm.ClassFile Sem Op Lib Jvm.Free Jvm.Stand Jvm.LawKit Jvm.RoadKit Bundle Jvm.Pilot.@@N@@.Jvm.D
def own_min (x y : Int32) : Int32 := if y < x then y else x
def own_max (x y : Int32) : Int32 := if x < y then y else x
def own_keep (c n f : Int32) : Int32 := if c < n / (4 : Int32) ∧ f < n then n / (2 : Int32) else n
def own_inc (c k v : Int32) : Int32 := if k < c then v + (1 : Int32) else v
theorem own_len1 (a : Int32) : 0 < ((a &&& (15 : Int32)) + (1 : Int32)).toInt := by
  have h1 := c_mask a 15 4 (by decide) (by decide)
  have h2 := c_iadd (a &&& (15 : Int32)) 1
  have h3 := rng32 ((a &&& (15 : Int32)) + (1 : Int32))
  have h4 : (1 : Int32).toInt = 1 := rfl
  rw [h4] at h2
  generalize (a &&& (15 : Int32)).toInt = u at *
  generalize ((a &&& (15 : Int32)) + (1 : Int32)).toInt = w at *
  have : ((2 ^ 4 : Nat) : Int) = 16 := by decide
  rw [this] at h1
  omega
theorem own_len2 (x : Int32) : 0 < (own_max (1 : Int32) x).toInt := by
  unfold own_max
  split
  · rename_i h; rw [Int32.lt_iff_toInt_lt] at h; have : (1 : Int32).toInt = 1 := rfl; omega
  · decide
theorem own_ne0 {n : Int32} (h : 0 < n.toInt) : ¬ n = (0 : Int32) := fun e => by rw [e] at h; exact absurd h (by decide)
theorem own_ct (c n : Int32) (h : 0 < n.toInt) : 0 ≤ (own_min (c &&& (3 : Int32)) n).toInt ∧ (own_min (c &&& (3 : Int32)) n).toInt ≤ 3 := by
  have h1 := c_mask c 3 2 (by decide) (by decide)
  have : ((2 ^ 2 : Nat) : Int) = 4 := by decide
  rw [this] at h1
  unfold own_min
  split
  · rename_i g; rw [Int32.lt_iff_toInt_lt] at g; omega
  · omega
theorem own_cnt (c : Int32) (h : 0 ≤ c.toInt ∧ c.toInt ≤ 3) : own_inc c 2 (own_inc c 1 (own_inc c 0 0)) = c := by
  have e : c = 0 ∨ c = 1 ∨ c = 2 ∨ c = 3 := by
    rcases (by omega : c.toInt = 0 ∨ c.toInt = 1 ∨ c.toInt = 2 ∨ c.toInt = 3) with q | q | q | q
    · exact Or.inl (Int32.toInt_inj.mp q)
    · exact Or.inr (Or.inl (Int32.toInt_inj.mp q))
    · exact Or.inr (Or.inr (Or.inl (Int32.toInt_inj.mp q)))
    · exact Or.inr (Or.inr (Or.inr (Int32.toInt_inj.mp q)))
  rcases e with rfl | rfl | rfl | rfl <;> decide
theorem own_half (n : Int32) (h : 0 < n.toInt) : n >>> ((1 : Int32) &&& 31) = n / (2 : Int32) := by
  apply Int32.toInt_inj.mp
  rw [c_ishr n 1 1 (by decide), (c_idiv n 2 2 (by decide) (by decide)).1 (by omega)]
  rfl
theorem own_four (c n : Int32) (hc : 0 ≤ c.toInt ∧ c.toInt ≤ 3) (h : 0 < n.toInt) : (0 : Int32) < lcmpW (((4 : Int64) * c.toInt64) + (4 : Int64)) n.toInt64 ↔ ¬ c < n / (4 : Int32) := by
  rw [lw_gt, Int64.lt_iff_toInt_lt, Int32.lt_iff_toInt_lt, (c_idiv n 4 4 (by decide) (by decide)).1 (by omega), c_i2l]
  have h1 := c_lmul 4 c.toInt64
  have h2 := c_ladd ((4 : Int64) * c.toInt64) 4
  have e4 : (4 : Int64).toInt = 4 := rfl
  rw [c_i2l] at h1
  rw [e4] at h1 h2
  have r1 := rng64 ((4 : Int64) * c.toInt64)
  have r2 := rng64 (((4 : Int64) * c.toInt64) + (4 : Int64))
  have r3 := rng32 n
  generalize ((4 : Int64) * c.toInt64).toInt = u at *
  generalize (((4 : Int64) * c.toInt64) + (4 : Int64)).toInt = w at *
  omega
theorem d1_0 : decode jdk_29_method_69_code 0 = .ok (.iload_n 0, 1) := by decide +kernel
theorem d1_1 : decode jdk_29_method_69_code 1 = .ok (.iload_n 1, 1) := by decide +kernel
theorem d1_2 : decode jdk_29_method_69_code 2 = .ok (.if_icmp .gt 7, 3) := by decide +kernel
theorem d1_5 : decode jdk_29_method_69_code 5 = .ok (.iload_n 0, 1) := by decide +kernel
theorem d1_6 : decode jdk_29_method_69_code 6 = .ok (.goto 4, 3) := by decide +kernel
theorem d1_9 : decode jdk_29_method_69_code 9 = .ok (.iload_n 1, 1) := by decide +kernel
theorem d1_10 : decode jdk_29_method_69_code 10 = .ok (.ireturn, 1) := by decide +kernel
theorem ef_1 (m : MethodId) (x0 : Int32) (x1 : Int32) : entryFrame m #[(.int x0), (.int x1)] 2 = mkF m 0 #[.val (.int x0), .val (.int x1)] [] := by first | (simp [entryFrame, mkF, argsToLocals, Value.category]; done) | rfl
def Q1 (Z : State) (p1 : Int32) (p2 : Int32) (h0 : Heap) (n0 : Nat) (v : Option Value) (h : Heap) (L : List Loc) : Prop := v = some (.int (own_min p1 p2)) ∧ Fr n0 L ∧ h = h0
set_option maxRecDepth 65536 in
set_option maxHeartbeats 40000000 in
theorem rm1 (l : Launch) (Z : State) (a0 : Array Value) (hw : ∀ d ∈ tables_1, d.before a0 Z = true) (ws : List Jvm.Cond) (p1 : Int32) (p2 : Int32) (h0 : Heap) (n0 : Nat) (Z0 : n0 ≤ h0.size) :
    MetFree l (⟨"java/lang/Math", "min", "(II)I"⟩ : MethodName) (head1 (Jvm.Cond.code (⟨"java/lang/Math", "min", "(II)I"⟩ : MethodName) jdk_29_method_69_code 2 (some .int) :: ws) ({ frames := 0, cells := 0, slots := 0, locals := 0 } : Room)) (fun a U => a = #[(.int p1), (.int p2)] ∧ Z.Warmed39 U.vm ∧ U.heap = h0) (fun _ _ _ _ _ => True) (fun _ U o U' => ∃ v L, o = .returned v ∧ Q1 Z p1 p2 h0 n0 v U'.heap L ∧ FrameEnd U o U' L ({ frames := 0, cells := 0, slots := 0, locals := 0 } : Room).cells ({ frames := 0, cells := 0, slots := 0, locals := 0 } : Room).slots) := by
  refine MetFree.of_bodySF (Jvm.Free.JP.mathPlain rfl (by decide +kernel)) hisR ?_
  intro p e s m args below meth c s₁ Bd hml0 hP hK
  obtain ⟨rfl, hZ, hh⟩ := hP
  have hx := Bd.exec
  have hby := Bd.bytes
  have hml : c.maxLocals = 2 := hml0
  have hown : s.vm.findClass "java/lang/Math" = some m.cls := findClass_of_methodNamed Bd.named
  have hnm := (name_of_methodNamed Bd.named Bd.method).1
  have X0 : Stand p l e ({ frames := 0, cells := 0, slots := 0, locals := 0 } : Room) s m #[(.int p1), (.int p2)] below meth c s₁ [] 0 0 := Stand.of_body Bd
  have e0 : s₁.heap = h0 := by rw [← hh, Bd.state]; rfl
  have N0 := Fr.nil n0
  have go0 : ∀ t, Steps p.tables e below (s₁.setTop (mkF m 0 #[.val (.int p1), .val (.int p2)] [])) t → Steps p.tables e below (s₁.setTop (entryFrame m #[(.int p1), (.int p2)] 2)) t := fun t k => castTop (ef_1 m p1 p2) k
  have go1 : ∀ t, Steps p.tables e below (s₁.setTop (mkF m 2 #[.val (.int p1), .val (.int p2)] [(.int p2), (.int p1)])) t → Steps p.tables e below (s₁.setTop (entryFrame m #[(.int p1), (.int p2)] 2)) t := by
    intro t k
    refine go0 t ?_
    show Steps p.tables e below (s₁.setTop (mkF m 0 #[.val (.int p1), .val (.int p2)] [])) _
    refine XS.iloadN X0.here hx rfl (hb hby d1_0) rfl ?_
    show Steps p.tables e below (s₁.setTop (mkF m 1 #[.val (.int p1), .val (.int p2)] [(.int p1)])) _
    refine XS.iloadN X0.here hx rfl (hb hby d1_1) rfl ?_
    exact k
  by_cases hc2 : p2 < p1
  · skip
    have go2 : ∀ t, Steps p.tables e below (s₁.setTop (mkF m 10 #[.val (.int p1), .val (.int p2)] [(.int p2)])) t → Steps p.tables e below (s₁.setTop (entryFrame m #[(.int p1), (.int p2)] 2)) t := by
      intro t k
      refine go1 t ?_
      show Steps p.tables e below (s₁.setTop (mkF m 2 #[.val (.int p1), .val (.int p2)] [(.int p2), (.int p1)])) _
      refine XS.icmpYes X0.here hx rfl (pc0 := 2) (pc' := 9) rfl (hb hby d1_2) rfl (tlt hc2).2.2.1 (by decide) (by decide) ?_
      show Steps p.tables e below (s₁.setTop (mkF m 9 #[.val (.int p1), .val (.int p2)] [])) _
      refine XS.iloadN X0.here hx rfl (hb hby d1_9) rfl ?_
      exact k
    obtain ⟨fs, hr, hrun, hended, hW, hsame⟩ := X0.leave (v := some (.int p2)) (fun h => by rw [Bd.returns] at h; cases h)
    refine ⟨_, _, go2 _ ?_, hrun, hended, _, _, rfl, ?_, ⟨_, rfl⟩, hW, hsame.mono (by decide) (by decide)⟩
    · show Steps p.tables e below (s₁.setTop (mkF m 10 #[.val (.int p1), .val (.int p2)] [(.int p2)])) _
      exact retI X0 hx Bd.returns (hb hby d1_10) hr
    · show Q1 Z p1 p2 h0 n0 _ s₁.heap _
      rw [e0]
      exact ⟨by simp [own_min, hc2], N0, rfl⟩
  · skip
    have go3 : ∀ t, Steps p.tables e below (s₁.setTop (mkF m 10 #[.val (.int p1), .val (.int p2)] [(.int p1)])) t → Steps p.tables e below (s₁.setTop (entryFrame m #[(.int p1), (.int p2)] 2)) t := by
      intro t k
      refine go1 t ?_
      show Steps p.tables e below (s₁.setTop (mkF m 2 #[.val (.int p1), .val (.int p2)] [(.int p2), (.int p1)])) _
      refine XS.icmpNo X0.here hx rfl (hb hby d1_2) rfl (flt hc2).2.2.1 ?_
      show Steps p.tables e below (s₁.setTop (mkF m 5 #[.val (.int p1), .val (.int p2)] [])) _
      refine XS.iloadN X0.here hx rfl (hb hby d1_5) rfl ?_
      show Steps p.tables e below (s₁.setTop (mkF m 6 #[.val (.int p1), .val (.int p2)] [(.int p1)])) _
      refine XS.goto X0.here hx rfl (pc0 := 6) (pc' := 10) rfl (hb hby d1_6) (by decide) (by decide) ?_
      exact k
    obtain ⟨fs, hr, hrun, hended, hW, hsame⟩ := X0.leave (v := some (.int p1)) (fun h => by rw [Bd.returns] at h; cases h)
    refine ⟨_, _, go3 _ ?_, hrun, hended, _, _, rfl, ?_, ⟨_, rfl⟩, hW, hsame.mono (by decide) (by decide)⟩
    · show Steps p.tables e below (s₁.setTop (mkF m 10 #[.val (.int p1), .val (.int p2)] [(.int p1)])) _
      exact retI X0 hx Bd.returns (hb hby d1_10) hr
    · show Q1 Z p1 p2 h0 n0 _ s₁.heap _
      rw [e0]
      exact ⟨by simp [own_min, hc2], N0, rfl⟩
theorem d10_0 : decode jdk_29_method_65_code 0 = .ok (.iload_n 0, 1) := by decide +kernel
theorem d10_1 : decode jdk_29_method_65_code 1 = .ok (.iload_n 1, 1) := by decide +kernel
theorem d10_2 : decode jdk_29_method_65_code 2 = .ok (.if_icmp .lt 7, 3) := by decide +kernel
theorem d10_5 : decode jdk_29_method_65_code 5 = .ok (.iload_n 0, 1) := by decide +kernel
theorem d10_6 : decode jdk_29_method_65_code 6 = .ok (.goto 4, 3) := by decide +kernel
theorem d10_9 : decode jdk_29_method_65_code 9 = .ok (.iload_n 1, 1) := by decide +kernel
theorem d10_10 : decode jdk_29_method_65_code 10 = .ok (.ireturn, 1) := by decide +kernel
theorem ef_10 (m : MethodId) (x0 : Int32) (x1 : Int32) : entryFrame m #[(.int x0), (.int x1)] 2 = mkF m 0 #[.val (.int x0), .val (.int x1)] [] := by first | (simp [entryFrame, mkF, argsToLocals, Value.category]; done) | rfl
def Q10 (Z : State) (p1 : Int32) (p2 : Int32) (h0 : Heap) (n0 : Nat) (v : Option Value) (h : Heap) (L : List Loc) : Prop := v = some (.int (own_max p1 p2)) ∧ Fr n0 L ∧ h = h0
set_option maxRecDepth 65536 in
set_option maxHeartbeats 40000000 in
theorem rm10 (l : Launch) (Z : State) (a0 : Array Value) (hw : ∀ d ∈ tables_1, d.before a0 Z = true) (ws : List Jvm.Cond) (p1 : Int32) (p2 : Int32) (h0 : Heap) (n0 : Nat) (Z0 : n0 ≤ h0.size) :
    MetFree l (⟨"java/lang/Math", "max", "(II)I"⟩ : MethodName) (head1 (Jvm.Cond.code (⟨"java/lang/Math", "max", "(II)I"⟩ : MethodName) jdk_29_method_65_code 2 (some .int) :: ws) ({ frames := 0, cells := 0, slots := 0, locals := 0 } : Room)) (fun a U => a = #[(.int p1), (.int p2)] ∧ Z.Warmed39 U.vm ∧ U.heap = h0) (fun _ _ _ _ _ => True) (fun _ U o U' => ∃ v L, o = .returned v ∧ Q10 Z p1 p2 h0 n0 v U'.heap L ∧ FrameEnd U o U' L ({ frames := 0, cells := 0, slots := 0, locals := 0 } : Room).cells ({ frames := 0, cells := 0, slots := 0, locals := 0 } : Room).slots) := by
  refine MetFree.of_bodySF (Jvm.Free.JP.mathPlain rfl (by decide +kernel)) hisR ?_
  intro p e s m args below meth c s₁ Bd hml0 hP hK
  obtain ⟨rfl, hZ, hh⟩ := hP
  have hx := Bd.exec
  have hby := Bd.bytes
  have hml : c.maxLocals = 2 := hml0
  have hown : s.vm.findClass "java/lang/Math" = some m.cls := findClass_of_methodNamed Bd.named
  have hnm := (name_of_methodNamed Bd.named Bd.method).1
  have X0 : Stand p l e ({ frames := 0, cells := 0, slots := 0, locals := 0 } : Room) s m #[(.int p1), (.int p2)] below meth c s₁ [] 0 0 := Stand.of_body Bd
  have e0 : s₁.heap = h0 := by rw [← hh, Bd.state]; rfl
  have N0 := Fr.nil n0
  have go0 : ∀ t, Steps p.tables e below (s₁.setTop (mkF m 0 #[.val (.int p1), .val (.int p2)] [])) t → Steps p.tables e below (s₁.setTop (entryFrame m #[(.int p1), (.int p2)] 2)) t := fun t k => castTop (ef_10 m p1 p2) k
  have go1 : ∀ t, Steps p.tables e below (s₁.setTop (mkF m 2 #[.val (.int p1), .val (.int p2)] [(.int p2), (.int p1)])) t → Steps p.tables e below (s₁.setTop (entryFrame m #[(.int p1), (.int p2)] 2)) t := by
    intro t k
    refine go0 t ?_
    show Steps p.tables e below (s₁.setTop (mkF m 0 #[.val (.int p1), .val (.int p2)] [])) _
    refine XS.iloadN X0.here hx rfl (hb hby d10_0) rfl ?_
    show Steps p.tables e below (s₁.setTop (mkF m 1 #[.val (.int p1), .val (.int p2)] [(.int p1)])) _
    refine XS.iloadN X0.here hx rfl (hb hby d10_1) rfl ?_
    exact k
  by_cases hc2 : p1 < p2
  · skip
    have go2 : ∀ t, Steps p.tables e below (s₁.setTop (mkF m 10 #[.val (.int p1), .val (.int p2)] [(.int p2)])) t → Steps p.tables e below (s₁.setTop (entryFrame m #[(.int p1), (.int p2)] 2)) t := by
      intro t k
      refine go1 t ?_
      show Steps p.tables e below (s₁.setTop (mkF m 2 #[.val (.int p1), .val (.int p2)] [(.int p2), (.int p1)])) _
      refine XS.icmpYes X0.here hx rfl (pc0 := 2) (pc' := 9) rfl (hb hby d10_2) rfl (tlt hc2).1 (by decide) (by decide) ?_
      show Steps p.tables e below (s₁.setTop (mkF m 9 #[.val (.int p1), .val (.int p2)] [])) _
      refine XS.iloadN X0.here hx rfl (hb hby d10_9) rfl ?_
      exact k
    obtain ⟨fs, hr, hrun, hended, hW, hsame⟩ := X0.leave (v := some (.int p2)) (fun h => by rw [Bd.returns] at h; cases h)
    refine ⟨_, _, go2 _ ?_, hrun, hended, _, _, rfl, ?_, ⟨_, rfl⟩, hW, hsame.mono (by decide) (by decide)⟩
    · show Steps p.tables e below (s₁.setTop (mkF m 10 #[.val (.int p1), .val (.int p2)] [(.int p2)])) _
      exact retI X0 hx Bd.returns (hb hby d10_10) hr
    · show Q10 Z p1 p2 h0 n0 _ s₁.heap _
      rw [e0]
      exact ⟨by simp [own_max, hc2], N0, rfl⟩
  · skip
    have go3 : ∀ t, Steps p.tables e below (s₁.setTop (mkF m 10 #[.val (.int p1), .val (.int p2)] [(.int p1)])) t → Steps p.tables e below (s₁.setTop (entryFrame m #[(.int p1), (.int p2)] 2)) t := by
      intro t k
      refine go1 t ?_
      show Steps p.tables e below (s₁.setTop (mkF m 2 #[.val (.int p1), .val (.int p2)] [(.int p2), (.int p1)])) _
      refine XS.icmpNo X0.here hx rfl (hb hby d10_2) rfl (flt hc2).1 ?_
      show Steps p.tables e below (s₁.setTop (mkF m 5 #[.val (.int p1), .val (.int p2)] [])) _
      refine XS.iloadN X0.here hx rfl (hb hby d10_5) rfl ?_
      show Steps p.tables e below (s₁.setTop (mkF m 6 #[.val (.int p1), .val (.int p2)] [(.int p1)])) _
      refine XS.goto X0.here hx rfl (pc0 := 6) (pc' := 10) rfl (hb hby d10_6) (by decide) (by decide) ?_
      exact k
    obtain ⟨fs, hr, hrun, hended, hW, hsame⟩ := X0.leave (v := some (.int p1)) (fun h => by rw [Bd.returns] at h; cases h)
    refine ⟨_, _, go3 _ ?_, hrun, hended, _, _, rfl, ?_, ⟨_, rfl⟩, hW, hsame.mono (by decide) (by decide)⟩
    · show Steps p.tables e below (s₁.setTop (mkF m 10 #[.val (.int p1), .val (.int p2)] [(.int p1)])) _
      exact retI X0 hx Bd.returns (hb hby d10_10) hr
    · show Q10 Z p1 p2 h0 n0 _ s₁.heap _
      rw [e0]
      exact ⟨by simp [own_max, hc2], N0, rfl⟩
theorem d2_0 : decode prog_42_method_1_code 0 = .ok (.aload_n 0, 1) := by decide +kernel
theorem d2_1 : decode prog_42_method_1_code 1 = .ok (.invokespecial 1, 3) := by decide +kernel
theorem d2_4 : decode prog_42_method_1_code 4 = .ok (.aload_n 0, 1) := by decide +kernel
theorem d2_5 : decode prog_42_method_1_code 5 = .ok (.iload_n 1, 1) := by decide +kernel
theorem d2_6 : decode prog_42_method_1_code 6 = .ok (.putfield 7, 3) := by decide +kernel
theorem d2_9 : decode prog_42_method_1_code 9 = .ok (.aload_n 0, 1) := by decide +kernel
theorem d2_10 : decode prog_42_method_1_code 10 = .ok (.iload_n 1, 1) := by decide +kernel
theorem d2_11 : decode prog_42_method_1_code 11 = .ok (.putfield 13, 3) := by decide +kernel
theorem d2_14 : decode prog_42_method_1_code 14 = .ok (.return_, 1) := by decide +kernel
theorem pn_2 : plainName "com/example/pheme/pheme/core/Ring" = true := by first | (simp [plainName, overriddenIn]; done) | decide +kernel
theorem ef_2 (m : MethodId) (x0 : Addr) (x1 : Int32) : entryFrame m #[(.ref x0), (.int x1)] 2 = mkF m 0 #[.val (.ref x0), .val (.int x1)] [] := by first | (simp [entryFrame, mkF, argsToLocals, Value.category]; done) | rfl
def Q2 (Z : State) (a1 : Addr) (p2 : Int32) (u_f : Value) (u_l : Value) (w_o : Int32) (w_c : Int32) (h0 : Heap) (n0 : Nat) (v : Option Value) (h : Heap) (L : List Loc) : Prop := v = none ∧ Fr n0 L ∧ Keep h0 h [a1] ∧ Exa Z h a1 "com/example/pheme/pheme/core/Ring" ∧ Fld Z h a1 "com/example/pheme/pheme/core/Ring" "firstLength" "I" (.int p2) ∧ Fld Z h a1 "com/example/pheme/pheme/core/Ring" "length" "I" (.int p2) ∧ Fld Z h a1 "com/example/pheme/pheme/core/Ring" "oldest" "I" (.int w_o) ∧ Fld Z h a1 "com/example/pheme/pheme/core/Ring" "count" "I" (.int w_c)
set_option maxRecDepth 65536 in
set_option maxHeartbeats 40000000 in
theorem rm2 (l : Launch) (Z : State) (a0 : Array Value) (hw : ∀ d ∈ tables_1, d.before a0 Z = true) (ws : List Jvm.Cond) (a1 : Addr) (p2 : Int32) (u_f : Value) (u_l : Value) (w_o : Int32) (w_c : Int32) (h0 : Heap) (n0 : Nat) (Z0 : n0 ≤ h0.size) (E_a1 : Exa Z h0 a1 "com/example/pheme/pheme/core/Ring") (g_a1 : n0 ≤ a1) (F_firstLength : Fld Z h0 a1 "com/example/pheme/pheme/core/Ring" "firstLength" "I" u_f) (F_length : Fld Z h0 a1 "com/example/pheme/pheme/core/Ring" "length" "I" u_l) (F_oldest : Fld Z h0 a1 "com/example/pheme/pheme/core/Ring" "oldest" "I" (.int w_o)) (F_count : Fld Z h0 a1 "com/example/pheme/pheme/core/Ring" "count" "I" (.int w_c)) :
    MetFree l (⟨"com/example/pheme/pheme/core/Ring", "<init>", "(I)V"⟩ : MethodName) (head1 (Jvm.Cond.code (⟨"com/example/pheme/pheme/core/Ring", "<init>", "(I)V"⟩ : MethodName) prog_42_method_1_code 2 none :: ws) ({ frames := 1, cells := 0, slots := 0, locals := 12 } : Room)) (fun a U => a = #[(.ref a1), (.int p2)] ∧ Z.Warmed39 U.vm ∧ U.heap = h0) (fun _ _ _ _ _ => True) (fun _ U o U' => ∃ v L, o = .returned v ∧ Q2 Z a1 p2 u_f u_l w_o w_c h0 n0 v U'.heap L ∧ FrameEnd U o U' L ({ frames := 1, cells := 0, slots := 0, locals := 12 } : Room).cells ({ frames := 1, cells := 0, slots := 0, locals := 12 } : Room).slots) := by
  refine MetFree.of_bodySF (plainFor_of_name pn_2) hisR ?_
  intro p e s m args below meth c s₁ Bd hml0 hP hK
  obtain ⟨rfl, hZ, hh⟩ := hP
  have hx := Bd.exec
  have hby := Bd.bytes
  have hml : c.maxLocals = 2 := hml0
  have hown : s.vm.findClass "com/example/pheme/pheme/core/Ring" = some m.cls := findClass_of_methodNamed Bd.named
  have hnm := (name_of_methodNamed Bd.named Bd.method).1
  have X0 : Stand p l e ({ frames := 1, cells := 0, slots := 0, locals := 12 } : Room) s m #[(.ref a1), (.int p2)] below meth c s₁ [] 0 0 := Stand.of_body Bd
  have e0 : s₁.heap = h0 := by rw [← hh, Bd.state]; rfl
  have N0 := Fr.nil n0
  have go0 : ∀ t, Steps p.tables e below (s₁.setTop (mkF m 0 #[.val (.ref a1), .val (.int p2)] [])) t → Steps p.tables e below (s₁.setTop (entryFrame m #[(.ref a1), (.int p2)] 2)) t := fun t k => castTop (ef_2 m a1 p2) k
  have K0 : Keep h0 h0 [a1] := Keep.refl h0 [a1]
  have go1 : ∀ t, Steps p.tables e below (s₁.setTop (mkF m 1 #[.val (.ref a1), .val (.int p2)] [(.ref a1)])) t → Steps p.tables e below (s₁.setTop (entryFrame m #[(.ref a1), (.int p2)] 2)) t := by
    intro t k
    refine go0 t ?_
    show Steps p.tables e below (s₁.setTop (mkF m 0 #[.val (.ref a1), .val (.int p2)] [])) _
    refine XS.aloadN X0.here hx rfl (hb hby d2_0) rfl rfl ?_
    exact k
  obtain ⟨T2, X2, e2, st2⟩ := initO X0 hx hZ hown (hw _ (List.mem_of_getElem? (i := 11) rfl)) (hw _ (List.mem_of_getElem? (i := 12) rfl)) (hw _ (List.mem_of_getElem? (i := 13) rfl)) e0 (g := (mkF m 1 #[.val (.ref a1), .val (.int p2)] [(.ref a1)])) rfl (by rw [hml]; rfl) rfl (hb hby d2_1) (by decide) (W := 0) (by show 2 * 0 + _ ≤ _; exact Nat.le_of_eq rfl) (by decide)
  have go3 : ∀ t, Steps p.tables e below (T2.setTop (mkF m 4 #[.val (.ref a1), .val (.int p2)] [])) t → Steps p.tables e below (s₁.setTop (entryFrame m #[(.ref a1), (.int p2)] 2)) t := fun t k => go1 t (st2 _ k)
  have go4 : ∀ t, Steps p.tables e below (T2.setTop (mkF m 6 #[.val (.ref a1), .val (.int p2)] [(.int p2), (.ref a1)])) t → Steps p.tables e below (s₁.setTop (entryFrame m #[(.ref a1), (.int p2)] 2)) t := by
    intro t k
    refine go3 t ?_
    show Steps p.tables e below (T2.setTop (mkF m 4 #[.val (.ref a1), .val (.int p2)] [])) _
    refine XS.aloadN X2.here hx rfl (hb hby d2_4) rfl rfl ?_
    show Steps p.tables e below (T2.setTop (mkF m 5 #[.val (.ref a1), .val (.int p2)] [(.ref a1)])) _
    refine XS.iloadN X2.here hx rfl (hb hby d2_5) rfl ?_
    exact k
  obtain ⟨T5, h5, X5, e5, W5, st5⟩ := putF X2 hx hZ hown (host := "") (Or.inl (hw _ (List.mem_of_getElem? (i := 14) rfl))) Via.refl e2 F_firstLength E_a1 (Or.inr ⟨(hw _ (List.mem_of_getElem? (i := 15) rfl)), rfl, hnm⟩) (hw _ (List.mem_of_getElem? (i := 6) rfl)) (ty := .int) (by decide) rfl rfl (g := (mkF m 6 #[.val (.ref a1), .val (.int p2)] [(.int p2), (.ref a1)])) rfl rfl (hb hby d2_6)
  have Fw5 := F_firstLength.same W5
  have c6 := E_a1.wr W5
  have c7 := F_length.other W5 (Or.inr (slot_ne (Or.inl (hw _ (List.mem_of_getElem? (i := 17) rfl))) (Or.inr (hw _ (List.mem_of_getElem? (i := 15) rfl))) (by decide) (t := .int) (t' := .int) (by decide) (by decide)))
  have c8 := F_oldest.other W5 (Or.inr (slot_ne (Or.inl (hw _ (List.mem_of_getElem? (i := 24) rfl))) (Or.inr (hw _ (List.mem_of_getElem? (i := 15) rfl))) (by decide) (t := .int) (t' := .int) (by decide) (by decide)))
  have c9 := F_count.other W5 (Or.inr (slot_ne (Or.inl (hw _ (List.mem_of_getElem? (i := 31) rfl))) (Or.inr (hw _ (List.mem_of_getElem? (i := 15) rfl))) (by decide) (t := .int) (t' := .int) (by decide) (by decide)))
  have K5 : Keep h0 h5 [a1] := K0.wr W5 (Or.inl (List.mem_of_getElem? (i := 0) rfl))
  have Z5 : n0 ≤ h5.size := Nat.le_trans Z0 (Keep.of_wr W5).1
  have N5 := Fr.snoc X5 N0 g_a1
  have go10 : ∀ t, Steps p.tables e below (T5.setTop (mkF m 9 #[.val (.ref a1), .val (.int p2)] [])) t → Steps p.tables e below (s₁.setTop (entryFrame m #[(.ref a1), (.int p2)] 2)) t := fun t k => go4 t (st5 _ k)
  have go11 : ∀ t, Steps p.tables e below (T5.setTop (mkF m 11 #[.val (.ref a1), .val (.int p2)] [(.int p2), (.ref a1)])) t → Steps p.tables e below (s₁.setTop (entryFrame m #[(.ref a1), (.int p2)] 2)) t := by
    intro t k
    refine go10 t ?_
    show Steps p.tables e below (T5.setTop (mkF m 9 #[.val (.ref a1), .val (.int p2)] [])) _
    refine XS.aloadN X5.here hx rfl (hb hby d2_9) rfl rfl ?_
    show Steps p.tables e below (T5.setTop (mkF m 10 #[.val (.ref a1), .val (.int p2)] [(.ref a1)])) _
    refine XS.iloadN X5.here hx rfl (hb hby d2_10) rfl ?_
    exact k
  obtain ⟨T12, h12, X12, e12, W12, st12⟩ := putF X5 hx hZ hown (host := "") (Or.inl (hw _ (List.mem_of_getElem? (i := 16) rfl))) Via.refl e5 c7 c6 (Or.inl (hw _ (List.mem_of_getElem? (i := 17) rfl))) (hw _ (List.mem_of_getElem? (i := 6) rfl)) (ty := .int) (by decide) rfl rfl (g := (mkF m 11 #[.val (.ref a1), .val (.int p2)] [(.int p2), (.ref a1)])) rfl rfl (hb hby d2_11)
  have Fw12 := c7.same W12
  have c13 := c6.wr W12
  have c14 := c8.other W12 (Or.inr (slot_ne (Or.inl (hw _ (List.mem_of_getElem? (i := 24) rfl))) (Or.inl (hw _ (List.mem_of_getElem? (i := 17) rfl))) (by decide) (t := .int) (t' := .int) (by decide) (by decide)))
  have c15 := c9.other W12 (Or.inr (slot_ne (Or.inl (hw _ (List.mem_of_getElem? (i := 31) rfl))) (Or.inl (hw _ (List.mem_of_getElem? (i := 17) rfl))) (by decide) (t := .int) (t' := .int) (by decide) (by decide)))
  have c16 := Fw5.other W12 (Or.inr (slot_ne (Or.inr (hw _ (List.mem_of_getElem? (i := 15) rfl))) (Or.inl (hw _ (List.mem_of_getElem? (i := 17) rfl))) (by decide) (t := .int) (t' := .int) (by decide) (by decide)))
  have K12 : Keep h0 h12 [a1] := K5.wr W12 (Or.inl (List.mem_of_getElem? (i := 0) rfl))
  have Z12 : n0 ≤ h12.size := Nat.le_trans Z5 (Keep.of_wr W12).1
  have N12 := Fr.snoc X12 N5 g_a1
  have go17 : ∀ t, Steps p.tables e below (T12.setTop (mkF m 14 #[.val (.ref a1), .val (.int p2)] [])) t → Steps p.tables e below (s₁.setTop (entryFrame m #[(.ref a1), (.int p2)] 2)) t := fun t k => go11 t (st12 _ k)
  obtain ⟨fs, hr, hrun, hended, hW, hsame⟩ := X12.leave (v := none) (fun _ => rfl)
  refine ⟨_, _, go17 _ ?_, hrun, hended, _, _, rfl, ?_, ⟨_, rfl⟩, hW, hsame.mono (by decide) (by decide)⟩
  · show Steps p.tables e below (T12.setTop (mkF m 14 #[.val (.ref a1), .val (.int p2)] [])) _
    exact X12.returnOut hx Bd.returns (hb hby d2_14) hr
  · show Q2 Z a1 p2 u_f u_l w_o w_c h0 n0 _ T12.heap _
    rw [e12]
    exact ⟨rfl, N12, K12, c13, c16, Fw12, c14, c15⟩
theorem d4_0 : decode prog_42_method_12_code 0 = .ok (.aload_n 0, 1) := by decide +kernel
theorem d4_1 : decode prog_42_method_12_code 1 = .ok (.iload_n 1, 1) := by decide +kernel
theorem d4_2 : decode prog_42_method_12_code 2 = .ok (.putfield 13, 3) := by decide +kernel
theorem d4_5 : decode prog_42_method_12_code 5 = .ok (.aload_n 0, 1) := by decide +kernel
theorem d4_6 : decode prog_42_method_12_code 6 = .ok (.iconst 0, 1) := by decide +kernel
theorem d4_7 : decode prog_42_method_12_code 7 = .ok (.putfield 19, 3) := by decide +kernel
theorem d4_10 : decode prog_42_method_12_code 10 = .ok (.return_, 1) := by decide +kernel
theorem pn_4 : plainName "com/example/pheme/pheme/core/Ring" = true := by first | (simp [plainName, overriddenIn]; done) | decide +kernel
theorem ef_4 (m : MethodId) (x0 : Addr) (x1 : Int32) : entryFrame m #[(.ref x0), (.int x1)] 2 = mkF m 0 #[.val (.ref x0), .val (.int x1)] [] := by first | (simp [entryFrame, mkF, argsToLocals, Value.category]; done) | rfl
def Q4 (Z : State) (a1 : Addr) (p2 : Int32) (w_f : Int32) (w_l : Int32) (w_o : Int32) (w_c : Int32) (h0 : Heap) (n0 : Nat) (v : Option Value) (h : Heap) (L : List Loc) : Prop := v = none ∧ Fr n0 L ∧ Keep h0 h [a1] ∧ Exa Z h a1 "com/example/pheme/pheme/core/Ring" ∧ Fld Z h a1 "com/example/pheme/pheme/core/Ring" "firstLength" "I" (.int w_f) ∧ Fld Z h a1 "com/example/pheme/pheme/core/Ring" "length" "I" (.int p2) ∧ Fld Z h a1 "com/example/pheme/pheme/core/Ring" "oldest" "I" (.int (0 : Int32)) ∧ Fld Z h a1 "com/example/pheme/pheme/core/Ring" "count" "I" (.int w_c)
set_option maxRecDepth 65536 in
set_option maxHeartbeats 40000000 in
theorem rm4 (l : Launch) (Z : State) (a0 : Array Value) (hw : ∀ d ∈ tables_1, d.before a0 Z = true) (ws : List Jvm.Cond) (a1 : Addr) (p2 : Int32) (w_f : Int32) (w_l : Int32) (w_o : Int32) (w_c : Int32) (h0 : Heap) (n0 : Nat) (Z0 : n0 ≤ h0.size) (E_a1 : Exa Z h0 a1 "com/example/pheme/pheme/core/Ring") (g_a1 : n0 ≤ a1) (F_firstLength : Fld Z h0 a1 "com/example/pheme/pheme/core/Ring" "firstLength" "I" (.int w_f)) (F_length : Fld Z h0 a1 "com/example/pheme/pheme/core/Ring" "length" "I" (.int w_l)) (F_oldest : Fld Z h0 a1 "com/example/pheme/pheme/core/Ring" "oldest" "I" (.int w_o)) (F_count : Fld Z h0 a1 "com/example/pheme/pheme/core/Ring" "count" "I" (.int w_c)) :
    MetFree l (⟨"com/example/pheme/pheme/core/Ring", "resized", "(I)V"⟩ : MethodName) (head1 (Jvm.Cond.code (⟨"com/example/pheme/pheme/core/Ring", "resized", "(I)V"⟩ : MethodName) prog_42_method_12_code 2 none :: ws) ({ frames := 0, cells := 0, slots := 0, locals := 0 } : Room)) (fun a U => a = #[(.ref a1), (.int p2)] ∧ Z.Warmed39 U.vm ∧ U.heap = h0) (fun _ _ _ _ _ => True) (fun _ U o U' => ∃ v L, o = .returned v ∧ Q4 Z a1 p2 w_f w_l w_o w_c h0 n0 v U'.heap L ∧ FrameEnd U o U' L ({ frames := 0, cells := 0, slots := 0, locals := 0 } : Room).cells ({ frames := 0, cells := 0, slots := 0, locals := 0 } : Room).slots) := by
  refine MetFree.of_bodySF (plainFor_of_name pn_4) hisR ?_
  intro p e s m args below meth c s₁ Bd hml0 hP hK
  obtain ⟨rfl, hZ, hh⟩ := hP
  have hx := Bd.exec
  have hby := Bd.bytes
  have hml : c.maxLocals = 2 := hml0
  have hown : s.vm.findClass "com/example/pheme/pheme/core/Ring" = some m.cls := findClass_of_methodNamed Bd.named
  have hnm := (name_of_methodNamed Bd.named Bd.method).1
  have X0 : Stand p l e ({ frames := 0, cells := 0, slots := 0, locals := 0 } : Room) s m #[(.ref a1), (.int p2)] below meth c s₁ [] 0 0 := Stand.of_body Bd
  have e0 : s₁.heap = h0 := by rw [← hh, Bd.state]; rfl
  have N0 := Fr.nil n0
  have go0 : ∀ t, Steps p.tables e below (s₁.setTop (mkF m 0 #[.val (.ref a1), .val (.int p2)] [])) t → Steps p.tables e below (s₁.setTop (entryFrame m #[(.ref a1), (.int p2)] 2)) t := fun t k => castTop (ef_4 m a1 p2) k
  have K0 : Keep h0 h0 [a1] := Keep.refl h0 [a1]
  have go1 : ∀ t, Steps p.tables e below (s₁.setTop (mkF m 2 #[.val (.ref a1), .val (.int p2)] [(.int p2), (.ref a1)])) t → Steps p.tables e below (s₁.setTop (entryFrame m #[(.ref a1), (.int p2)] 2)) t := by
    intro t k
    refine go0 t ?_
    show Steps p.tables e below (s₁.setTop (mkF m 0 #[.val (.ref a1), .val (.int p2)] [])) _
    refine XS.aloadN X0.here hx rfl (hb hby d4_0) rfl rfl ?_
    show Steps p.tables e below (s₁.setTop (mkF m 1 #[.val (.ref a1), .val (.int p2)] [(.ref a1)])) _
    refine XS.iloadN X0.here hx rfl (hb hby d4_1) rfl ?_
    exact k
  obtain ⟨T2, h2, X2, e2, W2, st2⟩ := putF X0 hx hZ hown (host := "") (Or.inl (hw _ (List.mem_of_getElem? (i := 16) rfl))) Via.refl e0 F_length E_a1 (Or.inl (hw _ (List.mem_of_getElem? (i := 17) rfl))) (hw _ (List.mem_of_getElem? (i := 6) rfl)) (ty := .int) (by decide) rfl rfl (g := (mkF m 2 #[.val (.ref a1), .val (.int p2)] [(.int p2), (.ref a1)])) rfl rfl (hb hby d4_2)
  have Fw2 := F_length.same W2
  have c3 := E_a1.wr W2
  have c4 := F_firstLength.other W2 (Or.inr (slot_ne (Or.inr (hw _ (List.mem_of_getElem? (i := 15) rfl))) (Or.inl (hw _ (List.mem_of_getElem? (i := 17) rfl))) (by decide) (t := .int) (t' := .int) (by decide) (by decide)))
  have c5 := F_oldest.other W2 (Or.inr (slot_ne (Or.inl (hw _ (List.mem_of_getElem? (i := 24) rfl))) (Or.inl (hw _ (List.mem_of_getElem? (i := 17) rfl))) (by decide) (t := .int) (t' := .int) (by decide) (by decide)))
  have c6 := F_count.other W2 (Or.inr (slot_ne (Or.inl (hw _ (List.mem_of_getElem? (i := 31) rfl))) (Or.inl (hw _ (List.mem_of_getElem? (i := 17) rfl))) (by decide) (t := .int) (t' := .int) (by decide) (by decide)))
  have K2 : Keep h0 h2 [a1] := K0.wr W2 (Or.inl (List.mem_of_getElem? (i := 0) rfl))
  have Z2 : n0 ≤ h2.size := Nat.le_trans Z0 (Keep.of_wr W2).1
  have N2 := Fr.snoc X2 N0 g_a1
  have go7 : ∀ t, Steps p.tables e below (T2.setTop (mkF m 5 #[.val (.ref a1), .val (.int p2)] [])) t → Steps p.tables e below (s₁.setTop (entryFrame m #[(.ref a1), (.int p2)] 2)) t := fun t k => go1 t (st2 _ k)
  have go8 : ∀ t, Steps p.tables e below (T2.setTop (mkF m 7 #[.val (.ref a1), .val (.int p2)] [(.int (0 : Int32)), (.ref a1)])) t → Steps p.tables e below (s₁.setTop (entryFrame m #[(.ref a1), (.int p2)] 2)) t := by
    intro t k
    refine go7 t ?_
    show Steps p.tables e below (T2.setTop (mkF m 5 #[.val (.ref a1), .val (.int p2)] [])) _
    refine XS.aloadN X2.here hx rfl (hb hby d4_5) rfl rfl ?_
    show Steps p.tables e below (T2.setTop (mkF m 6 #[.val (.ref a1), .val (.int p2)] [(.ref a1)])) _
    refine XS.iconst X2.here hx rfl (hb hby d4_6) ?_
    exact k
  obtain ⟨T9, h9, X9, e9, W9, st9⟩ := putF X2 hx hZ hown (host := "") (Or.inl (hw _ (List.mem_of_getElem? (i := 23) rfl))) Via.refl e2 c5 c3 (Or.inl (hw _ (List.mem_of_getElem? (i := 24) rfl))) (hw _ (List.mem_of_getElem? (i := 6) rfl)) (ty := .int) (by decide) rfl rfl (g := (mkF m 7 #[.val (.ref a1), .val (.int p2)] [(.int (0 : Int32)), (.ref a1)])) rfl rfl (hb hby d4_7)
  have Fw9 := c5.same W9
  have c10 := c3.wr W9
  have c11 := c4.other W9 (Or.inr (slot_ne (Or.inr (hw _ (List.mem_of_getElem? (i := 15) rfl))) (Or.inl (hw _ (List.mem_of_getElem? (i := 24) rfl))) (by decide) (t := .int) (t' := .int) (by decide) (by decide)))
  have c12 := c6.other W9 (Or.inr (slot_ne (Or.inl (hw _ (List.mem_of_getElem? (i := 31) rfl))) (Or.inl (hw _ (List.mem_of_getElem? (i := 24) rfl))) (by decide) (t := .int) (t' := .int) (by decide) (by decide)))
  have c13 := Fw2.other W9 (Or.inr (slot_ne (Or.inl (hw _ (List.mem_of_getElem? (i := 17) rfl))) (Or.inl (hw _ (List.mem_of_getElem? (i := 24) rfl))) (by decide) (t := .int) (t' := .int) (by decide) (by decide)))
  have K9 : Keep h0 h9 [a1] := K2.wr W9 (Or.inl (List.mem_of_getElem? (i := 0) rfl))
  have Z9 : n0 ≤ h9.size := Nat.le_trans Z2 (Keep.of_wr W9).1
  have N9 := Fr.snoc X9 N2 g_a1
  have go14 : ∀ t, Steps p.tables e below (T9.setTop (mkF m 10 #[.val (.ref a1), .val (.int p2)] [])) t → Steps p.tables e below (s₁.setTop (entryFrame m #[(.ref a1), (.int p2)] 2)) t := fun t k => go8 t (st9 _ k)
  obtain ⟨fs, hr, hrun, hended, hW, hsame⟩ := X9.leave (v := none) (fun _ => rfl)
  refine ⟨_, _, go14 _ ?_, hrun, hended, _, _, rfl, ?_, ⟨_, rfl⟩, hW, hsame.mono (by decide) (by decide)⟩
  · show Steps p.tables e below (T9.setTop (mkF m 10 #[.val (.ref a1), .val (.int p2)] [])) _
    exact X9.returnOut hx Bd.returns (hb hby d4_10) hr
  · show Q4 Z a1 p2 w_f w_l w_o w_c h0 n0 _ T9.heap _
    rw [e9]
    exact ⟨rfl, N9, K9, c10, c11, c13, Fw9, c12⟩
theorem d6_0 : decode prog_42_method_5_code 0 = .ok (.aload_n 0, 1) := by decide +kernel
theorem d6_1 : decode prog_42_method_5_code 1 = .ok (.getfield 19, 3) := by decide +kernel
theorem d6_4 : decode prog_42_method_5_code 4 = .ok (.iload_n 1, 1) := by decide +kernel
theorem d6_5 : decode prog_42_method_5_code 5 = .ok (.iadd, 1) := by decide +kernel
theorem d6_6 : decode prog_42_method_5_code 6 = .ok (.aload_n 0, 1) := by decide +kernel
theorem d6_7 : decode prog_42_method_5_code 7 = .ok (.getfield 13, 3) := by decide +kernel
theorem d6_10 : decode prog_42_method_5_code 10 = .ok (.irem, 1) := by decide +kernel
theorem d6_11 : decode prog_42_method_5_code 11 = .ok (.ireturn, 1) := by decide +kernel
theorem pn_6 : plainName "com/example/pheme/pheme/core/Ring" = true := by first | (simp [plainName, overriddenIn]; done) | decide +kernel
theorem ef_6 (m : MethodId) (x0 : Addr) (x1 : Int32) : entryFrame m #[(.ref x0), (.int x1)] 2 = mkF m 0 #[.val (.ref x0), .val (.int x1)] [] := by first | (simp [entryFrame, mkF, argsToLocals, Value.category]; done) | rfl
def Q6 (Z : State) (a1 : Addr) (p2 : Int32) (w_l : Int32) (w_o : Int32) (h0 : Heap) (n0 : Nat) (v : Option Value) (h : Heap) (L : List Loc) : Prop := v = some (.int ((w_o + p2) % w_l)) ∧ Fr n0 L ∧ h = h0
set_option maxRecDepth 65536 in
set_option maxHeartbeats 40000000 in
theorem rm6 (l : Launch) (Z : State) (a0 : Array Value) (hw : ∀ d ∈ tables_1, d.before a0 Z = true) (ws : List Jvm.Cond) (a1 : Addr) (p2 : Int32) (w_l : Int32) (w_o : Int32) (h0 : Heap) (n0 : Nat) (Z0 : n0 ≤ h0.size) (F_length : Fld Z h0 a1 "com/example/pheme/pheme/core/Ring" "length" "I" (.int w_l)) (F_oldest : Fld Z h0 a1 "com/example/pheme/pheme/core/Ring" "oldest" "I" (.int w_o)) (hnz : ¬ w_l = (0 : Int32)) :
    MetFree l (⟨"com/example/pheme/pheme/core/Ring", "place", "(I)I"⟩ : MethodName) (head1 (Jvm.Cond.code (⟨"com/example/pheme/pheme/core/Ring", "place", "(I)I"⟩ : MethodName) prog_42_method_5_code 2 (some .int) :: ws) ({ frames := 0, cells := 0, slots := 0, locals := 0 } : Room)) (fun a U => a = #[(.ref a1), (.int p2)] ∧ Z.Warmed39 U.vm ∧ U.heap = h0) (fun _ _ _ _ _ => True) (fun _ U o U' => ∃ v L, o = .returned v ∧ Q6 Z a1 p2 w_l w_o h0 n0 v U'.heap L ∧ FrameEnd U o U' L ({ frames := 0, cells := 0, slots := 0, locals := 0 } : Room).cells ({ frames := 0, cells := 0, slots := 0, locals := 0 } : Room).slots) := by
  refine MetFree.of_bodySF (plainFor_of_name pn_6) hisR ?_
  intro p e s m args below meth c s₁ Bd hml0 hP hK
  obtain ⟨rfl, hZ, hh⟩ := hP
  have hx := Bd.exec
  have hby := Bd.bytes
  have hml : c.maxLocals = 2 := hml0
  have hown : s.vm.findClass "com/example/pheme/pheme/core/Ring" = some m.cls := findClass_of_methodNamed Bd.named
  have hnm := (name_of_methodNamed Bd.named Bd.method).1
  have X0 : Stand p l e ({ frames := 0, cells := 0, slots := 0, locals := 0 } : Room) s m #[(.ref a1), (.int p2)] below meth c s₁ [] 0 0 := Stand.of_body Bd
  have e0 : s₁.heap = h0 := by rw [← hh, Bd.state]; rfl
  have N0 := Fr.nil n0
  have go0 : ∀ t, Steps p.tables e below (s₁.setTop (mkF m 0 #[.val (.ref a1), .val (.int p2)] [])) t → Steps p.tables e below (s₁.setTop (entryFrame m #[(.ref a1), (.int p2)] 2)) t := fun t k => castTop (ef_6 m a1 p2) k
  have go1 : ∀ t, Steps p.tables e below (s₁.setTop (mkF m 1 #[.val (.ref a1), .val (.int p2)] [(.ref a1)])) t → Steps p.tables e below (s₁.setTop (entryFrame m #[(.ref a1), (.int p2)] 2)) t := by
    intro t k
    refine go0 t ?_
    show Steps p.tables e below (s₁.setTop (mkF m 0 #[.val (.ref a1), .val (.int p2)] [])) _
    refine XS.aloadN X0.here hx rfl (hb hby d6_0) rfl rfl ?_
    exact k
  obtain ⟨T2, X2, e2, st2⟩ := getF X0 hx hZ hown (host := "") (Or.inl (hw _ (List.mem_of_getElem? (i := 23) rfl))) Via.refl e0 F_oldest (g := (mkF m 1 #[.val (.ref a1), .val (.int p2)] [(.ref a1)])) rfl rfl (hb hby d6_1)
  have go3 : ∀ t, Steps p.tables e below (T2.setTop (mkF m 4 #[.val (.ref a1), .val (.int p2)] [(.int w_o)])) t → Steps p.tables e below (s₁.setTop (entryFrame m #[(.ref a1), (.int p2)] 2)) t := fun t k => go1 t (st2 _ k)
  have go4 : ∀ t, Steps p.tables e below (T2.setTop (mkF m 7 #[.val (.ref a1), .val (.int p2)] [(.ref a1), (.int (w_o + p2))])) t → Steps p.tables e below (s₁.setTop (entryFrame m #[(.ref a1), (.int p2)] 2)) t := by
    intro t k
    refine go3 t ?_
    show Steps p.tables e below (T2.setTop (mkF m 4 #[.val (.ref a1), .val (.int p2)] [(.int w_o)])) _
    refine XS.iloadN X2.here hx rfl (hb hby d6_4) rfl ?_
    show Steps p.tables e below (T2.setTop (mkF m 5 #[.val (.ref a1), .val (.int p2)] [(.int p2), (.int w_o)])) _
    refine XS.iadd X2.here hx rfl (hb hby d6_5) rfl ?_
    show Steps p.tables e below (T2.setTop (mkF m 6 #[.val (.ref a1), .val (.int p2)] [(.int (w_o + p2))])) _
    refine XS.aloadN X2.here hx rfl (hb hby d6_6) rfl rfl ?_
    exact k
  obtain ⟨T5, X5, e5, st5⟩ := getF X2 hx hZ hown (host := "") (Or.inl (hw _ (List.mem_of_getElem? (i := 16) rfl))) Via.refl e2 F_length (g := (mkF m 7 #[.val (.ref a1), .val (.int p2)] [(.ref a1), (.int (w_o + p2))])) rfl rfl (hb hby d6_7)
  have go6 : ∀ t, Steps p.tables e below (T5.setTop (mkF m 10 #[.val (.ref a1), .val (.int p2)] [(.int w_l), (.int (w_o + p2))])) t → Steps p.tables e below (s₁.setTop (entryFrame m #[(.ref a1), (.int p2)] 2)) t := fun t k => go4 t (st5 _ k)
  have go7 : ∀ t, Steps p.tables e below (T5.setTop (mkF m 11 #[.val (.ref a1), .val (.int p2)] [(.int ((w_o + p2) % w_l))])) t → Steps p.tables e below (s₁.setTop (entryFrame m #[(.ref a1), (.int p2)] 2)) t := by
    intro t k
    refine go6 t ?_
    show Steps p.tables e below (T5.setTop (mkF m 10 #[.val (.ref a1), .val (.int p2)] [(.int w_l), (.int (w_o + p2))])) _
    refine iremM X5 hx rfl (hb hby d6_10) rfl hnz ?_
    exact k
  obtain ⟨fs, hr, hrun, hended, hW, hsame⟩ := X5.leave (v := some (.int ((w_o + p2) % w_l))) (fun h => by rw [Bd.returns] at h; cases h)
  refine ⟨_, _, go7 _ ?_, hrun, hended, _, _, rfl, ?_, ⟨_, rfl⟩, hW, hsame.mono (by decide) (by decide)⟩
  · show Steps p.tables e below (T5.setTop (mkF m 11 #[.val (.ref a1), .val (.int p2)] [(.int ((w_o + p2) % w_l))])) _
    exact retI X5 hx Bd.returns (hb hby d6_11) hr
  · show Q6 Z a1 p2 w_l w_o h0 n0 _ T5.heap _
    rw [e5]
    exact ⟨rfl, N0, rfl⟩
theorem d5_0 : decode prog_42_method_7_code 0 = .ok (.aload_n 0, 1) := by decide +kernel
theorem d5_1 : decode prog_42_method_7_code 1 = .ok (.aload_n 0, 1) := by decide +kernel
theorem d5_2 : decode prog_42_method_7_code 2 = .ok (.getfield 16, 3) := by decide +kernel
theorem d5_5 : decode prog_42_method_7_code 5 = .ok (.invokevirtual 22, 3) := by decide +kernel
theorem d5_8 : decode prog_42_method_7_code 8 = .ok (.istore_n 1, 1) := by decide +kernel
theorem d5_9 : decode prog_42_method_7_code 9 = .ok (.aload_n 0, 1) := by decide +kernel
theorem d5_10 : decode prog_42_method_7_code 10 = .ok (.dup, 1) := by decide +kernel
theorem d5_11 : decode prog_42_method_7_code 11 = .ok (.getfield 16, 3) := by decide +kernel
theorem d5_14 : decode prog_42_method_7_code 14 = .ok (.iconst 1, 1) := by decide +kernel
theorem d5_15 : decode prog_42_method_7_code 15 = .ok (.iadd, 1) := by decide +kernel
theorem d5_16 : decode prog_42_method_7_code 16 = .ok (.putfield 16, 3) := by decide +kernel
theorem d5_19 : decode prog_42_method_7_code 19 = .ok (.iload_n 1, 1) := by decide +kernel
theorem d5_20 : decode prog_42_method_7_code 20 = .ok (.ireturn, 1) := by decide +kernel
theorem pd_5_0 : parseMethodDescriptor "(I)I" = some ⟨[.int], some .int⟩ := by decide +kernel
theorem pn_5 : plainName "com/example/pheme/pheme/core/Ring" = true := by first | (simp [plainName, overriddenIn]; done) | decide +kernel
theorem ef_5 (m : MethodId) (x0 : Addr) : entryFrame m #[(.ref x0)] 2 = mkF m 0 #[.val (.ref x0), .unset] [] := by first | (simp [entryFrame, mkF, argsToLocals, Value.category]; done) | rfl
def Q5 (Z : State) (a1 : Addr) (w_f : Int32) (w_l : Int32) (w_o : Int32) (w_c : Int32) (h0 : Heap) (n0 : Nat) (v : Option Value) (h : Heap) (L : List Loc) : Prop := v = some (.int ((w_o + w_c) % w_l)) ∧ Fr n0 L ∧ Keep h0 h [a1] ∧ Exa Z h a1 "com/example/pheme/pheme/core/Ring" ∧ Fld Z h a1 "com/example/pheme/pheme/core/Ring" "firstLength" "I" (.int w_f) ∧ Fld Z h a1 "com/example/pheme/pheme/core/Ring" "length" "I" (.int w_l) ∧ Fld Z h a1 "com/example/pheme/pheme/core/Ring" "oldest" "I" (.int w_o) ∧ Fld Z h a1 "com/example/pheme/pheme/core/Ring" "count" "I" (.int (w_c + (1 : Int32)))
set_option maxRecDepth 65536 in
set_option maxHeartbeats 40000000 in
theorem rm5 (l : Launch) (Z : State) (a0 : Array Value) (hw : ∀ d ∈ tables_1, d.before a0 Z = true) (ws : List Jvm.Cond) (a1 : Addr) (w_f : Int32) (w_l : Int32) (w_o : Int32) (w_c : Int32) (h0 : Heap) (n0 : Nat) (Z0 : n0 ≤ h0.size) (E_a1 : Exa Z h0 a1 "com/example/pheme/pheme/core/Ring") (g_a1 : n0 ≤ a1) (F_firstLength : Fld Z h0 a1 "com/example/pheme/pheme/core/Ring" "firstLength" "I" (.int w_f)) (F_length : Fld Z h0 a1 "com/example/pheme/pheme/core/Ring" "length" "I" (.int w_l)) (F_oldest : Fld Z h0 a1 "com/example/pheme/pheme/core/Ring" "oldest" "I" (.int w_o)) (F_count : Fld Z h0 a1 "com/example/pheme/pheme/core/Ring" "count" "I" (.int w_c)) (hnz : ¬ w_l = (0 : Int32)) :
    MetFree l (⟨"com/example/pheme/pheme/core/Ring", "add", "()I"⟩ : MethodName) (head1 (Jvm.Cond.code (⟨"com/example/pheme/pheme/core/Ring", "add", "()I"⟩ : MethodName) prog_42_method_7_code 2 (some .int) :: ws) ({ frames := 1, cells := 0, slots := 0, locals := 13 } : Room)) (fun a U => a = #[(.ref a1)] ∧ Z.Warmed39 U.vm ∧ U.heap = h0) (fun _ _ _ _ _ => True) (fun _ U o U' => ∃ v L, o = .returned v ∧ Q5 Z a1 w_f w_l w_o w_c h0 n0 v U'.heap L ∧ FrameEnd U o U' L ({ frames := 1, cells := 0, slots := 0, locals := 13 } : Room).cells ({ frames := 1, cells := 0, slots := 0, locals := 13 } : Room).slots) := by
  refine MetFree.of_bodySF (plainFor_of_name pn_5) hisR ?_
  intro p e s m args below meth c s₁ Bd hml0 hP hK
  obtain ⟨rfl, hZ, hh⟩ := hP
  have hx := Bd.exec
  have hby := Bd.bytes
  have hml : c.maxLocals = 2 := hml0
  have hown : s.vm.findClass "com/example/pheme/pheme/core/Ring" = some m.cls := findClass_of_methodNamed Bd.named
  have hnm := (name_of_methodNamed Bd.named Bd.method).1
  have X0 : Stand p l e ({ frames := 1, cells := 0, slots := 0, locals := 13 } : Room) s m #[(.ref a1)] below meth c s₁ [] 0 0 := Stand.of_body Bd
  have e0 : s₁.heap = h0 := by rw [← hh, Bd.state]; rfl
  have N0 := Fr.nil n0
  have go0 : ∀ t, Steps p.tables e below (s₁.setTop (mkF m 0 #[.val (.ref a1), .unset] [])) t → Steps p.tables e below (s₁.setTop (entryFrame m #[(.ref a1)] 2)) t := fun t k => castTop (ef_5 m a1) k
  have K0 : Keep h0 h0 [a1] := Keep.refl h0 [a1]
  have go1 : ∀ t, Steps p.tables e below (s₁.setTop (mkF m 2 #[.val (.ref a1), .unset] [(.ref a1), (.ref a1)])) t → Steps p.tables e below (s₁.setTop (entryFrame m #[(.ref a1)] 2)) t := by
    intro t k
    refine go0 t ?_
    show Steps p.tables e below (s₁.setTop (mkF m 0 #[.val (.ref a1), .unset] [])) _
    refine XS.aloadN X0.here hx rfl (hb hby d5_0) rfl rfl ?_
    show Steps p.tables e below (s₁.setTop (mkF m 1 #[.val (.ref a1), .unset] [(.ref a1)])) _
    refine XS.aloadN X0.here hx rfl (hb hby d5_1) rfl rfl ?_
    exact k
  obtain ⟨T2, X2, e2, st2⟩ := getF X0 hx hZ hown (host := "") (Or.inl (hw _ (List.mem_of_getElem? (i := 30) rfl))) Via.refl e0 F_count (g := (mkF m 2 #[.val (.ref a1), .unset] [(.ref a1), (.ref a1)])) rfl rfl (hb hby d5_2)
  have go3 : ∀ t, Steps p.tables e below (T2.setTop (mkF m 5 #[.val (.ref a1), .unset] [(.int w_c), (.ref a1)])) t → Steps p.tables e below (s₁.setTop (entryFrame m #[(.ref a1)] 2)) t := fun t k => go1 t (st2 _ k)
  obtain ⟨cq4, kq4, q4a, q4b, q4c⟩ := isOf hZ e2 E_a1
  obtain ⟨_, _, ⟨T4, L4, k4, n4⟩, -, X4, ⟨Lc4, hQ4, l4, y4, z4⟩, st4⟩ := X2.virtualBack hx (y := (⟨"com/example/pheme/pheme/core/Ring", "place", "(I)I"⟩ : MethodName)) (z := (⟨"com/example/pheme/pheme/core/Ring", "place", "(I)I"⟩ : MethodName)) hown (mvT hZ (hw _ (List.mem_of_getElem? (i := 32) rfl))) (mvT hZ (hw _ (List.mem_of_getElem? (i := 33) rfl))) (notFace_of_selects (args := #[]) (mvT hZ (hw _ (List.mem_of_getElem? (i := 35) rfl)))) (mvT hZ (hw _ (List.mem_of_getElem? (i := 35) rfl))) (mvT hZ (hw _ (List.mem_of_getElem? (i := 34) rfl))) (by decide) (backOf (W := 0) (rm6 l Z a0 hw [] a1 w_c w_l w_o h0 n0 Z0 F_length F_oldest hnz) hZ (hw _ (List.mem_of_getElem? (i := 36) rfl)) (hw _ (List.mem_of_getElem? (i := 7) rfl)) (by decide) (by decide)) q4a q4c (g := (mkF m 5 #[.val (.ref a1), .unset] [(.int w_c), (.ref a1)])) rfl (by rw [hml]; rfl) (Steps.refl _) (argsL := [(.int w_c)]) (rest := []) (lenOf pd_5_0 rfl) rfl (by show 2 * 0 + _ ≤ _; exact Nat.le_of_eq rfl) (hb hby d5_5) (fun _ _ => ⟨rfl, e2, (by decide : 0 + 0 ≤ _), (by decide : 0 + 0 ≤ _)⟩)
  dsimp only [Pt.U, Pt.locs, Pt.cells, Pt.slots] at X4 l4 y4 z4 st4 hQ4
  subst l4 y4 z4
  obtain ⟨rfl, N4q, e4⟩ := hQ4
  have N4 := Fr.app N0 N4q
  have go5 : ∀ t, Steps p.tables e below (T4.setTop (mkF m 8 #[.val (.ref a1), .unset] [(.int ((w_o + w_c) % w_l))])) t → Steps p.tables e below (s₁.setTop (entryFrame m #[(.ref a1)] 2)) t := fun t k => go3 t (st4.trans k)
  have go6 : ∀ t, Steps p.tables e below (T4.setTop (mkF m 11 #[.val (.ref a1), .val (.int ((w_o + w_c) % w_l))] [(.ref a1), (.ref a1)])) t → Steps p.tables e below (s₁.setTop (entryFrame m #[(.ref a1)] 2)) t := by
    intro t k
    refine go5 t ?_
    show Steps p.tables e below (T4.setTop (mkF m 8 #[.val (.ref a1), .unset] [(.int ((w_o + w_c) % w_l))])) _
    refine XS.istoreN X4.here hx rfl (hb hby d5_8) rfl (l' := #[.val (.ref a1), .val (.int ((w_o + w_c) % w_l))]) rfl ?_
    show Steps p.tables e below (T4.setTop (mkF m 9 #[.val (.ref a1), .val (.int ((w_o + w_c) % w_l))] [])) _
    refine XS.aloadN X4.here hx rfl (hb hby d5_9) rfl rfl ?_
    show Steps p.tables e below (T4.setTop (mkF m 10 #[.val (.ref a1), .val (.int ((w_o + w_c) % w_l))] [(.ref a1)])) _
    refine XS.dup X4.here hx rfl (hb hby d5_10) rfl rfl ?_
    exact k
  obtain ⟨T7, X7, e7, st7⟩ := getF X4 hx hZ hown (host := "") (Or.inl (hw _ (List.mem_of_getElem? (i := 30) rfl))) Via.refl e4 F_count (g := (mkF m 11 #[.val (.ref a1), .val (.int ((w_o + w_c) % w_l))] [(.ref a1), (.ref a1)])) rfl rfl (hb hby d5_11)
  have go8 : ∀ t, Steps p.tables e below (T7.setTop (mkF m 14 #[.val (.ref a1), .val (.int ((w_o + w_c) % w_l))] [(.int w_c), (.ref a1)])) t → Steps p.tables e below (s₁.setTop (entryFrame m #[(.ref a1)] 2)) t := fun t k => go6 t (st7 _ k)
  have go9 : ∀ t, Steps p.tables e below (T7.setTop (mkF m 16 #[.val (.ref a1), .val (.int ((w_o + w_c) % w_l))] [(.int (w_c + (1 : Int32))), (.ref a1)])) t → Steps p.tables e below (s₁.setTop (entryFrame m #[(.ref a1)] 2)) t := by
    intro t k
    refine go8 t ?_
    show Steps p.tables e below (T7.setTop (mkF m 14 #[.val (.ref a1), .val (.int ((w_o + w_c) % w_l))] [(.int w_c), (.ref a1)])) _
    refine XS.iconst X7.here hx rfl (hb hby d5_14) ?_
    show Steps p.tables e below (T7.setTop (mkF m 15 #[.val (.ref a1), .val (.int ((w_o + w_c) % w_l))] [(.int (1 : Int32)), (.int w_c), (.ref a1)])) _
    refine XS.iadd X7.here hx rfl (hb hby d5_15) rfl ?_
    exact k
  obtain ⟨T10, h10, X10, e10, W10, st10⟩ := putF X7 hx hZ hown (host := "") (Or.inl (hw _ (List.mem_of_getElem? (i := 30) rfl))) Via.refl e7 F_count E_a1 (Or.inl (hw _ (List.mem_of_getElem? (i := 31) rfl))) (hw _ (List.mem_of_getElem? (i := 6) rfl)) (ty := .int) (by decide) rfl rfl (g := (mkF m 16 #[.val (.ref a1), .val (.int ((w_o + w_c) % w_l))] [(.int (w_c + (1 : Int32))), (.ref a1)])) rfl rfl (hb hby d5_16)
  have Fw10 := F_count.same W10
  have c11 := E_a1.wr W10
  have c12 := F_firstLength.other W10 (Or.inr (slot_ne (Or.inr (hw _ (List.mem_of_getElem? (i := 15) rfl))) (Or.inl (hw _ (List.mem_of_getElem? (i := 31) rfl))) (by decide) (t := .int) (t' := .int) (by decide) (by decide)))
  have c13 := F_length.other W10 (Or.inr (slot_ne (Or.inl (hw _ (List.mem_of_getElem? (i := 17) rfl))) (Or.inl (hw _ (List.mem_of_getElem? (i := 31) rfl))) (by decide) (t := .int) (t' := .int) (by decide) (by decide)))
  have c14 := F_oldest.other W10 (Or.inr (slot_ne (Or.inl (hw _ (List.mem_of_getElem? (i := 24) rfl))) (Or.inl (hw _ (List.mem_of_getElem? (i := 31) rfl))) (by decide) (t := .int) (t' := .int) (by decide) (by decide)))
  have K10 : Keep h0 h10 [a1] := K0.wr W10 (Or.inl (List.mem_of_getElem? (i := 0) rfl))
  have Z10 : n0 ≤ h10.size := Nat.le_trans Z0 (Keep.of_wr W10).1
  have N10 := Fr.snoc X10 N4 g_a1
  have go15 : ∀ t, Steps p.tables e below (T10.setTop (mkF m 19 #[.val (.ref a1), .val (.int ((w_o + w_c) % w_l))] [])) t → Steps p.tables e below (s₁.setTop (entryFrame m #[(.ref a1)] 2)) t := fun t k => go9 t (st10 _ k)
  have go16 : ∀ t, Steps p.tables e below (T10.setTop (mkF m 20 #[.val (.ref a1), .val (.int ((w_o + w_c) % w_l))] [(.int ((w_o + w_c) % w_l))])) t → Steps p.tables e below (s₁.setTop (entryFrame m #[(.ref a1)] 2)) t := by
    intro t k
    refine go15 t ?_
    show Steps p.tables e below (T10.setTop (mkF m 19 #[.val (.ref a1), .val (.int ((w_o + w_c) % w_l))] [])) _
    refine XS.iloadN X10.here hx rfl (hb hby d5_19) rfl ?_
    exact k
  obtain ⟨fs, hr, hrun, hended, hW, hsame⟩ := X10.leave (v := some (.int ((w_o + w_c) % w_l))) (fun h => by rw [Bd.returns] at h; cases h)
  refine ⟨_, _, go16 _ ?_, hrun, hended, _, _, rfl, ?_, ⟨_, rfl⟩, hW, hsame.mono (by decide) (by decide)⟩
  · show Steps p.tables e below (T10.setTop (mkF m 20 #[.val (.ref a1), .val (.int ((w_o + w_c) % w_l))] [(.int ((w_o + w_c) % w_l))])) _
    exact retI X10 hx Bd.returns (hb hby d5_20) hr
  · show Q5 Z a1 w_f w_l w_o w_c h0 n0 _ T10.heap _
    rw [e10]
    exact ⟨rfl, N10, K10, c11, c12, c13, c14, Fw10⟩
theorem d7_0 : decode prog_42_method_6_code 0 = .ok (.aload_n 0, 1) := by decide +kernel
theorem d7_1 : decode prog_42_method_6_code 1 = .ok (.getfield 16, 3) := by decide +kernel
theorem d7_4 : decode prog_42_method_6_code 4 = .ok (.aload_n 0, 1) := by decide +kernel
theorem d7_5 : decode prog_42_method_6_code 5 = .ok (.getfield 13, 3) := by decide +kernel
theorem d7_8 : decode prog_42_method_6_code 8 = .ok (.iconst 4, 1) := by decide +kernel
theorem d7_9 : decode prog_42_method_6_code 9 = .ok (.idiv, 1) := by decide +kernel
theorem d7_10 : decode prog_42_method_6_code 10 = .ok (.if_icmp .ge 23, 3) := by decide +kernel
theorem d7_13 : decode prog_42_method_6_code 13 = .ok (.aload_n 0, 1) := by decide +kernel
theorem d7_14 : decode prog_42_method_6_code 14 = .ok (.getfield 13, 3) := by decide +kernel
theorem d7_17 : decode prog_42_method_6_code 17 = .ok (.aload_n 0, 1) := by decide +kernel
theorem d7_18 : decode prog_42_method_6_code 18 = .ok (.getfield 7, 3) := by decide +kernel
theorem d7_21 : decode prog_42_method_6_code 21 = .ok (.if_icmp .le 12, 3) := by decide +kernel
theorem d7_24 : decode prog_42_method_6_code 24 = .ok (.aload_n 0, 1) := by decide +kernel
theorem d7_25 : decode prog_42_method_6_code 25 = .ok (.getfield 13, 3) := by decide +kernel
theorem d7_28 : decode prog_42_method_6_code 28 = .ok (.iconst 2, 1) := by decide +kernel
theorem d7_29 : decode prog_42_method_6_code 29 = .ok (.idiv, 1) := by decide +kernel
theorem d7_30 : decode prog_42_method_6_code 30 = .ok (.goto 7, 3) := by decide +kernel
theorem d7_33 : decode prog_42_method_6_code 33 = .ok (.aload_n 0, 1) := by decide +kernel
theorem d7_34 : decode prog_42_method_6_code 34 = .ok (.getfield 13, 3) := by decide +kernel
theorem d7_37 : decode prog_42_method_6_code 37 = .ok (.ireturn, 1) := by decide +kernel
theorem pn_7 : plainName "com/example/pheme/pheme/core/Ring" = true := by first | (simp [plainName, overriddenIn]; done) | decide +kernel
theorem ef_7 (m : MethodId) (x0 : Addr) : entryFrame m #[(.ref x0)] 1 = mkF m 0 #[.val (.ref x0)] [] := by first | (simp [entryFrame, mkF, argsToLocals, Value.category]; done) | rfl
def Q7 (Z : State) (a1 : Addr) (w_f : Int32) (w_l : Int32) (w_c : Int32) (h0 : Heap) (n0 : Nat) (v : Option Value) (h : Heap) (L : List Loc) : Prop := v = some (.int (own_keep w_c w_l w_f)) ∧ Fr n0 L ∧ h = h0
set_option maxRecDepth 65536 in
set_option maxHeartbeats 40000000 in
theorem rm7 (l : Launch) (Z : State) (a0 : Array Value) (hw : ∀ d ∈ tables_1, d.before a0 Z = true) (ws : List Jvm.Cond) (a1 : Addr) (w_f : Int32) (w_l : Int32) (w_c : Int32) (h0 : Heap) (n0 : Nat) (Z0 : n0 ≤ h0.size) (F_firstLength : Fld Z h0 a1 "com/example/pheme/pheme/core/Ring" "firstLength" "I" (.int w_f)) (F_length : Fld Z h0 a1 "com/example/pheme/pheme/core/Ring" "length" "I" (.int w_l)) (F_count : Fld Z h0 a1 "com/example/pheme/pheme/core/Ring" "count" "I" (.int w_c)) :
    MetFree l (⟨"com/example/pheme/pheme/core/Ring", "lengthToKeep", "()I"⟩ : MethodName) (head1 (Jvm.Cond.code (⟨"com/example/pheme/pheme/core/Ring", "lengthToKeep", "()I"⟩ : MethodName) prog_42_method_6_code 1 (some .int) :: ws) ({ frames := 0, cells := 0, slots := 0, locals := 0 } : Room)) (fun a U => a = #[(.ref a1)] ∧ Z.Warmed39 U.vm ∧ U.heap = h0) (fun _ _ _ _ _ => True) (fun _ U o U' => ∃ v L, o = .returned v ∧ Q7 Z a1 w_f w_l w_c h0 n0 v U'.heap L ∧ FrameEnd U o U' L ({ frames := 0, cells := 0, slots := 0, locals := 0 } : Room).cells ({ frames := 0, cells := 0, slots := 0, locals := 0 } : Room).slots) := by
  refine MetFree.of_bodySF (plainFor_of_name pn_7) hisR ?_
  intro p e s m args below meth c s₁ Bd hml0 hP hK
  obtain ⟨rfl, hZ, hh⟩ := hP
  have hx := Bd.exec
  have hby := Bd.bytes
  have hml : c.maxLocals = 1 := hml0
  have hown : s.vm.findClass "com/example/pheme/pheme/core/Ring" = some m.cls := findClass_of_methodNamed Bd.named
  have hnm := (name_of_methodNamed Bd.named Bd.method).1
  have X0 : Stand p l e ({ frames := 0, cells := 0, slots := 0, locals := 0 } : Room) s m #[(.ref a1)] below meth c s₁ [] 0 0 := Stand.of_body Bd
  have e0 : s₁.heap = h0 := by rw [← hh, Bd.state]; rfl
  have N0 := Fr.nil n0
  have go0 : ∀ t, Steps p.tables e below (s₁.setTop (mkF m 0 #[.val (.ref a1)] [])) t → Steps p.tables e below (s₁.setTop (entryFrame m #[(.ref a1)] 1)) t := fun t k => castTop (ef_7 m a1) k
  have go1 : ∀ t, Steps p.tables e below (s₁.setTop (mkF m 1 #[.val (.ref a1)] [(.ref a1)])) t → Steps p.tables e below (s₁.setTop (entryFrame m #[(.ref a1)] 1)) t := by
    intro t k
    refine go0 t ?_
    show Steps p.tables e below (s₁.setTop (mkF m 0 #[.val (.ref a1)] [])) _
    refine XS.aloadN X0.here hx rfl (hb hby d7_0) rfl rfl ?_
    exact k
  obtain ⟨T2, X2, e2, st2⟩ := getF X0 hx hZ hown (host := "") (Or.inl (hw _ (List.mem_of_getElem? (i := 30) rfl))) Via.refl e0 F_count (g := (mkF m 1 #[.val (.ref a1)] [(.ref a1)])) rfl rfl (hb hby d7_1)
  have go3 : ∀ t, Steps p.tables e below (T2.setTop (mkF m 4 #[.val (.ref a1)] [(.int w_c)])) t → Steps p.tables e below (s₁.setTop (entryFrame m #[(.ref a1)] 1)) t := fun t k => go1 t (st2 _ k)
  have go4 : ∀ t, Steps p.tables e below (T2.setTop (mkF m 5 #[.val (.ref a1)] [(.ref a1), (.int w_c)])) t → Steps p.tables e below (s₁.setTop (entryFrame m #[(.ref a1)] 1)) t := by
    intro t k
    refine go3 t ?_
    show Steps p.tables e below (T2.setTop (mkF m 4 #[.val (.ref a1)] [(.int w_c)])) _
    refine XS.aloadN X2.here hx rfl (hb hby d7_4) rfl rfl ?_
    exact k
  obtain ⟨T5, X5, e5, st5⟩ := getF X2 hx hZ hown (host := "") (Or.inl (hw _ (List.mem_of_getElem? (i := 16) rfl))) Via.refl e2 F_length (g := (mkF m 5 #[.val (.ref a1)] [(.ref a1), (.int w_c)])) rfl rfl (hb hby d7_5)
  have go6 : ∀ t, Steps p.tables e below (T5.setTop (mkF m 8 #[.val (.ref a1)] [(.int w_l), (.int w_c)])) t → Steps p.tables e below (s₁.setTop (entryFrame m #[(.ref a1)] 1)) t := fun t k => go4 t (st5 _ k)
  have go7 : ∀ t, Steps p.tables e below (T5.setTop (mkF m 10 #[.val (.ref a1)] [(.int (w_l / (4 : Int32))), (.int w_c)])) t → Steps p.tables e below (s₁.setTop (entryFrame m #[(.ref a1)] 1)) t := by
    intro t k
    refine go6 t ?_
    show Steps p.tables e below (T5.setTop (mkF m 8 #[.val (.ref a1)] [(.int w_l), (.int w_c)])) _
    refine XS.iconst X5.here hx rfl (hb hby d7_8) ?_
    show Steps p.tables e below (T5.setTop (mkF m 9 #[.val (.ref a1)] [(.int (4 : Int32)), (.int w_l), (.int w_c)])) _
    refine XS.idiv X5.here hx rfl (hb hby d7_9) rfl (by decide) ?_
    exact k
  by_cases hc10 : w_c < (w_l / (4 : Int32))
  · skip
    have go8 : ∀ t, Steps p.tables e below (T5.setTop (mkF m 14 #[.val (.ref a1)] [(.ref a1)])) t → Steps p.tables e below (s₁.setTop (entryFrame m #[(.ref a1)] 1)) t := by
      intro t k
      refine go7 t ?_
      show Steps p.tables e below (T5.setTop (mkF m 10 #[.val (.ref a1)] [(.int (w_l / (4 : Int32))), (.int w_c)])) _
      refine XS.icmpNo X5.here hx rfl (hb hby d7_10) rfl (tlt hc10).2.1 ?_
      show Steps p.tables e below (T5.setTop (mkF m 13 #[.val (.ref a1)] [])) _
      refine XS.aloadN X5.here hx rfl (hb hby d7_13) rfl rfl ?_
      exact k
    obtain ⟨T9, X9, e9, st9⟩ := getF X5 hx hZ hown (host := "") (Or.inl (hw _ (List.mem_of_getElem? (i := 16) rfl))) Via.refl e5 F_length (g := (mkF m 14 #[.val (.ref a1)] [(.ref a1)])) rfl rfl (hb hby d7_14)
    have go10 : ∀ t, Steps p.tables e below (T9.setTop (mkF m 17 #[.val (.ref a1)] [(.int w_l)])) t → Steps p.tables e below (s₁.setTop (entryFrame m #[(.ref a1)] 1)) t := fun t k => go8 t (st9 _ k)
    have go11 : ∀ t, Steps p.tables e below (T9.setTop (mkF m 18 #[.val (.ref a1)] [(.ref a1), (.int w_l)])) t → Steps p.tables e below (s₁.setTop (entryFrame m #[(.ref a1)] 1)) t := by
      intro t k
      refine go10 t ?_
      show Steps p.tables e below (T9.setTop (mkF m 17 #[.val (.ref a1)] [(.int w_l)])) _
      refine XS.aloadN X9.here hx rfl (hb hby d7_17) rfl rfl ?_
      exact k
    obtain ⟨T12, X12, e12, st12⟩ := getF X9 hx hZ hown (host := "") (Or.inl (hw _ (List.mem_of_getElem? (i := 14) rfl))) Via.refl e9 F_firstLength (g := (mkF m 18 #[.val (.ref a1)] [(.ref a1), (.int w_l)])) rfl rfl (hb hby d7_18)
    have go13 : ∀ t, Steps p.tables e below (T12.setTop (mkF m 21 #[.val (.ref a1)] [(.int w_f), (.int w_l)])) t → Steps p.tables e below (s₁.setTop (entryFrame m #[(.ref a1)] 1)) t := fun t k => go11 t (st12 _ k)
    by_cases hc21 : w_f < w_l
    · skip
      have go14 : ∀ t, Steps p.tables e below (T12.setTop (mkF m 25 #[.val (.ref a1)] [(.ref a1)])) t → Steps p.tables e below (s₁.setTop (entryFrame m #[(.ref a1)] 1)) t := by
        intro t k
        refine go13 t ?_
        show Steps p.tables e below (T12.setTop (mkF m 21 #[.val (.ref a1)] [(.int w_f), (.int w_l)])) _
        refine XS.icmpNo X12.here hx rfl (hb hby d7_21) rfl (tlt hc21).2.2.2 ?_
        show Steps p.tables e below (T12.setTop (mkF m 24 #[.val (.ref a1)] [])) _
        refine XS.aloadN X12.here hx rfl (hb hby d7_24) rfl rfl ?_
        exact k
      obtain ⟨T15, X15, e15, st15⟩ := getF X12 hx hZ hown (host := "") (Or.inl (hw _ (List.mem_of_getElem? (i := 16) rfl))) Via.refl e12 F_length (g := (mkF m 25 #[.val (.ref a1)] [(.ref a1)])) rfl rfl (hb hby d7_25)
      have go16 : ∀ t, Steps p.tables e below (T15.setTop (mkF m 28 #[.val (.ref a1)] [(.int w_l)])) t → Steps p.tables e below (s₁.setTop (entryFrame m #[(.ref a1)] 1)) t := fun t k => go14 t (st15 _ k)
      have go17 : ∀ t, Steps p.tables e below (T15.setTop (mkF m 37 #[.val (.ref a1)] [(.int (w_l / (2 : Int32)))])) t → Steps p.tables e below (s₁.setTop (entryFrame m #[(.ref a1)] 1)) t := by
        intro t k
        refine go16 t ?_
        show Steps p.tables e below (T15.setTop (mkF m 28 #[.val (.ref a1)] [(.int w_l)])) _
        refine XS.iconst X15.here hx rfl (hb hby d7_28) ?_
        show Steps p.tables e below (T15.setTop (mkF m 29 #[.val (.ref a1)] [(.int (2 : Int32)), (.int w_l)])) _
        refine XS.idiv X15.here hx rfl (hb hby d7_29) rfl (by decide) ?_
        show Steps p.tables e below (T15.setTop (mkF m 30 #[.val (.ref a1)] [(.int (w_l / (2 : Int32)))])) _
        refine XS.goto X15.here hx rfl (pc0 := 30) (pc' := 37) rfl (hb hby d7_30) (by decide) (by decide) ?_
        exact k
      obtain ⟨fs, hr, hrun, hended, hW, hsame⟩ := X15.leave (v := some (.int (w_l / (2 : Int32)))) (fun h => by rw [Bd.returns] at h; cases h)
      refine ⟨_, _, go17 _ ?_, hrun, hended, _, _, rfl, ?_, ⟨_, rfl⟩, hW, hsame.mono (by decide) (by decide)⟩
      · show Steps p.tables e below (T15.setTop (mkF m 37 #[.val (.ref a1)] [(.int (w_l / (2 : Int32)))])) _
        exact retI X15 hx Bd.returns (hb hby d7_37) hr
      · show Q7 Z a1 w_f w_l w_c h0 n0 _ T15.heap _
        rw [e15]
        exact ⟨by simp [own_keep, hc10, hc21], N0, rfl⟩
    · skip
      have go18 : ∀ t, Steps p.tables e below (T12.setTop (mkF m 34 #[.val (.ref a1)] [(.ref a1)])) t → Steps p.tables e below (s₁.setTop (entryFrame m #[(.ref a1)] 1)) t := by
        intro t k
        refine go13 t ?_
        show Steps p.tables e below (T12.setTop (mkF m 21 #[.val (.ref a1)] [(.int w_f), (.int w_l)])) _
        refine XS.icmpYes X12.here hx rfl (pc0 := 21) (pc' := 33) rfl (hb hby d7_21) rfl (flt hc21).2.2.2 (by decide) (by decide) ?_
        show Steps p.tables e below (T12.setTop (mkF m 33 #[.val (.ref a1)] [])) _
        refine XS.aloadN X12.here hx rfl (hb hby d7_33) rfl rfl ?_
        exact k
      obtain ⟨T19, X19, e19, st19⟩ := getF X12 hx hZ hown (host := "") (Or.inl (hw _ (List.mem_of_getElem? (i := 16) rfl))) Via.refl e12 F_length (g := (mkF m 34 #[.val (.ref a1)] [(.ref a1)])) rfl rfl (hb hby d7_34)
      have go20 : ∀ t, Steps p.tables e below (T19.setTop (mkF m 37 #[.val (.ref a1)] [(.int w_l)])) t → Steps p.tables e below (s₁.setTop (entryFrame m #[(.ref a1)] 1)) t := fun t k => go18 t (st19 _ k)
      obtain ⟨fs, hr, hrun, hended, hW, hsame⟩ := X19.leave (v := some (.int w_l)) (fun h => by rw [Bd.returns] at h; cases h)
      refine ⟨_, _, go20 _ ?_, hrun, hended, _, _, rfl, ?_, ⟨_, rfl⟩, hW, hsame.mono (by decide) (by decide)⟩
      · show Steps p.tables e below (T19.setTop (mkF m 37 #[.val (.ref a1)] [(.int w_l)])) _
        exact retI X19 hx Bd.returns (hb hby d7_37) hr
      · show Q7 Z a1 w_f w_l w_c h0 n0 _ T19.heap _
        rw [e19]
        exact ⟨by simp [own_keep, hc10, hc21], N0, rfl⟩
  · skip
    have go21 : ∀ t, Steps p.tables e below (T5.setTop (mkF m 34 #[.val (.ref a1)] [(.ref a1)])) t → Steps p.tables e below (s₁.setTop (entryFrame m #[(.ref a1)] 1)) t := by
      intro t k
      refine go7 t ?_
      show Steps p.tables e below (T5.setTop (mkF m 10 #[.val (.ref a1)] [(.int (w_l / (4 : Int32))), (.int w_c)])) _
      refine XS.icmpYes X5.here hx rfl (pc0 := 10) (pc' := 33) rfl (hb hby d7_10) rfl (flt hc10).2.1 (by decide) (by decide) ?_
      show Steps p.tables e below (T5.setTop (mkF m 33 #[.val (.ref a1)] [])) _
      refine XS.aloadN X5.here hx rfl (hb hby d7_33) rfl rfl ?_
      exact k
    obtain ⟨T22, X22, e22, st22⟩ := getF X5 hx hZ hown (host := "") (Or.inl (hw _ (List.mem_of_getElem? (i := 16) rfl))) Via.refl e5 F_length (g := (mkF m 34 #[.val (.ref a1)] [(.ref a1)])) rfl rfl (hb hby d7_34)
    have go23 : ∀ t, Steps p.tables e below (T22.setTop (mkF m 37 #[.val (.ref a1)] [(.int w_l)])) t → Steps p.tables e below (s₁.setTop (entryFrame m #[(.ref a1)] 1)) t := fun t k => go21 t (st22 _ k)
    obtain ⟨fs, hr, hrun, hended, hW, hsame⟩ := X22.leave (v := some (.int w_l)) (fun h => by rw [Bd.returns] at h; cases h)
    refine ⟨_, _, go23 _ ?_, hrun, hended, _, _, rfl, ?_, ⟨_, rfl⟩, hW, hsame.mono (by decide) (by decide)⟩
    · show Steps p.tables e below (T22.setTop (mkF m 37 #[.val (.ref a1)] [(.int w_l)])) _
      exact retI X22 hx Bd.returns (hb hby d7_37) hr
    · show Q7 Z a1 w_f w_l w_c h0 n0 _ T22.heap _
      rw [e22]
      exact ⟨by simp [own_keep, hc10], N0, rfl⟩
theorem d8_0 : decode prog_42_method_4_code 0 = .ok (.aload_n 0, 1) := by decide +kernel
theorem d8_1 : decode prog_42_method_4_code 1 = .ok (.getfield 13, 3) := by decide +kernel
theorem d8_4 : decode prog_42_method_4_code 4 = .ok (.ireturn, 1) := by decide +kernel
theorem pn_8 : plainName "com/example/pheme/pheme/core/Ring" = true := by first | (simp [plainName, overriddenIn]; done) | decide +kernel
theorem ef_8 (m : MethodId) (x0 : Addr) : entryFrame m #[(.ref x0)] 1 = mkF m 0 #[.val (.ref x0)] [] := by first | (simp [entryFrame, mkF, argsToLocals, Value.category]; done) | rfl
def Q8 (Z : State) (a1 : Addr) (w_l : Int32) (h0 : Heap) (n0 : Nat) (v : Option Value) (h : Heap) (L : List Loc) : Prop := v = some (.int w_l) ∧ Fr n0 L ∧ h = h0
set_option maxRecDepth 65536 in
set_option maxHeartbeats 40000000 in
theorem rm8 (l : Launch) (Z : State) (a0 : Array Value) (hw : ∀ d ∈ tables_1, d.before a0 Z = true) (ws : List Jvm.Cond) (a1 : Addr) (w_l : Int32) (h0 : Heap) (n0 : Nat) (Z0 : n0 ≤ h0.size) (F_length : Fld Z h0 a1 "com/example/pheme/pheme/core/Ring" "length" "I" (.int w_l)) :
    MetFree l (⟨"com/example/pheme/pheme/core/Ring", "length", "()I"⟩ : MethodName) (head1 (Jvm.Cond.code (⟨"com/example/pheme/pheme/core/Ring", "length", "()I"⟩ : MethodName) prog_42_method_4_code 1 (some .int) :: ws) ({ frames := 0, cells := 0, slots := 0, locals := 0 } : Room)) (fun a U => a = #[(.ref a1)] ∧ Z.Warmed39 U.vm ∧ U.heap = h0) (fun _ _ _ _ _ => True) (fun _ U o U' => ∃ v L, o = .returned v ∧ Q8 Z a1 w_l h0 n0 v U'.heap L ∧ FrameEnd U o U' L ({ frames := 0, cells := 0, slots := 0, locals := 0 } : Room).cells ({ frames := 0, cells := 0, slots := 0, locals := 0 } : Room).slots) := by
  refine MetFree.of_bodySF (plainFor_of_name pn_8) hisR ?_
  intro p e s m args below meth c s₁ Bd hml0 hP hK
  obtain ⟨rfl, hZ, hh⟩ := hP
  have hx := Bd.exec
  have hby := Bd.bytes
  have hml : c.maxLocals = 1 := hml0
  have hown : s.vm.findClass "com/example/pheme/pheme/core/Ring" = some m.cls := findClass_of_methodNamed Bd.named
  have hnm := (name_of_methodNamed Bd.named Bd.method).1
  have X0 : Stand p l e ({ frames := 0, cells := 0, slots := 0, locals := 0 } : Room) s m #[(.ref a1)] below meth c s₁ [] 0 0 := Stand.of_body Bd
  have e0 : s₁.heap = h0 := by rw [← hh, Bd.state]; rfl
  have N0 := Fr.nil n0
  have go0 : ∀ t, Steps p.tables e below (s₁.setTop (mkF m 0 #[.val (.ref a1)] [])) t → Steps p.tables e below (s₁.setTop (entryFrame m #[(.ref a1)] 1)) t := fun t k => castTop (ef_8 m a1) k
  have go1 : ∀ t, Steps p.tables e below (s₁.setTop (mkF m 1 #[.val (.ref a1)] [(.ref a1)])) t → Steps p.tables e below (s₁.setTop (entryFrame m #[(.ref a1)] 1)) t := by
    intro t k
    refine go0 t ?_
    show Steps p.tables e below (s₁.setTop (mkF m 0 #[.val (.ref a1)] [])) _
    refine XS.aloadN X0.here hx rfl (hb hby d8_0) rfl rfl ?_
    exact k
  obtain ⟨T2, X2, e2, st2⟩ := getF X0 hx hZ hown (host := "") (Or.inl (hw _ (List.mem_of_getElem? (i := 16) rfl))) Via.refl e0 F_length (g := (mkF m 1 #[.val (.ref a1)] [(.ref a1)])) rfl rfl (hb hby d8_1)
  have go3 : ∀ t, Steps p.tables e below (T2.setTop (mkF m 4 #[.val (.ref a1)] [(.int w_l)])) t → Steps p.tables e below (s₁.setTop (entryFrame m #[(.ref a1)] 1)) t := fun t k => go1 t (st2 _ k)
  obtain ⟨fs, hr, hrun, hended, hW, hsame⟩ := X2.leave (v := some (.int w_l)) (fun h => by rw [Bd.returns] at h; cases h)
  refine ⟨_, _, go3 _ ?_, hrun, hended, _, _, rfl, ?_, ⟨_, rfl⟩, hW, hsame.mono (by decide) (by decide)⟩
  · show Steps p.tables e below (T2.setTop (mkF m 4 #[.val (.ref a1)] [(.int w_l)])) _
    exact retI X2 hx Bd.returns (hb hby d8_4) hr
  · show Q8 Z a1 w_l h0 n0 _ T2.heap _
    rw [e2]
    exact ⟨rfl, N0, rfl⟩
theorem d9_0 : decode prog_42_method_2_code 0 = .ok (.aload_n 0, 1) := by decide +kernel
theorem d9_1 : decode prog_42_method_2_code 1 = .ok (.getfield 16, 3) := by decide +kernel
theorem d9_4 : decode prog_42_method_2_code 4 = .ok (.ireturn, 1) := by decide +kernel
theorem pn_9 : plainName "com/example/pheme/pheme/core/Ring" = true := by first | (simp [plainName, overriddenIn]; done) | decide +kernel
theorem ef_9 (m : MethodId) (x0 : Addr) : entryFrame m #[(.ref x0)] 1 = mkF m 0 #[.val (.ref x0)] [] := by first | (simp [entryFrame, mkF, argsToLocals, Value.category]; done) | rfl
def Q9 (Z : State) (a1 : Addr) (w_c : Int32) (h0 : Heap) (n0 : Nat) (v : Option Value) (h : Heap) (L : List Loc) : Prop := v = some (.int w_c) ∧ Fr n0 L ∧ h = h0
set_option maxRecDepth 65536 in
set_option maxHeartbeats 40000000 in
theorem rm9 (l : Launch) (Z : State) (a0 : Array Value) (hw : ∀ d ∈ tables_1, d.before a0 Z = true) (ws : List Jvm.Cond) (a1 : Addr) (w_c : Int32) (h0 : Heap) (n0 : Nat) (Z0 : n0 ≤ h0.size) (F_count : Fld Z h0 a1 "com/example/pheme/pheme/core/Ring" "count" "I" (.int w_c)) :
    MetFree l (⟨"com/example/pheme/pheme/core/Ring", "size", "()I"⟩ : MethodName) (head1 (Jvm.Cond.code (⟨"com/example/pheme/pheme/core/Ring", "size", "()I"⟩ : MethodName) prog_42_method_2_code 1 (some .int) :: ws) ({ frames := 0, cells := 0, slots := 0, locals := 0 } : Room)) (fun a U => a = #[(.ref a1)] ∧ Z.Warmed39 U.vm ∧ U.heap = h0) (fun _ _ _ _ _ => True) (fun _ U o U' => ∃ v L, o = .returned v ∧ Q9 Z a1 w_c h0 n0 v U'.heap L ∧ FrameEnd U o U' L ({ frames := 0, cells := 0, slots := 0, locals := 0 } : Room).cells ({ frames := 0, cells := 0, slots := 0, locals := 0 } : Room).slots) := by
  refine MetFree.of_bodySF (plainFor_of_name pn_9) hisR ?_
  intro p e s m args below meth c s₁ Bd hml0 hP hK
  obtain ⟨rfl, hZ, hh⟩ := hP
  have hx := Bd.exec
  have hby := Bd.bytes
  have hml : c.maxLocals = 1 := hml0
  have hown : s.vm.findClass "com/example/pheme/pheme/core/Ring" = some m.cls := findClass_of_methodNamed Bd.named
  have hnm := (name_of_methodNamed Bd.named Bd.method).1
  have X0 : Stand p l e ({ frames := 0, cells := 0, slots := 0, locals := 0 } : Room) s m #[(.ref a1)] below meth c s₁ [] 0 0 := Stand.of_body Bd
  have e0 : s₁.heap = h0 := by rw [← hh, Bd.state]; rfl
  have N0 := Fr.nil n0
  have go0 : ∀ t, Steps p.tables e below (s₁.setTop (mkF m 0 #[.val (.ref a1)] [])) t → Steps p.tables e below (s₁.setTop (entryFrame m #[(.ref a1)] 1)) t := fun t k => castTop (ef_9 m a1) k
  have go1 : ∀ t, Steps p.tables e below (s₁.setTop (mkF m 1 #[.val (.ref a1)] [(.ref a1)])) t → Steps p.tables e below (s₁.setTop (entryFrame m #[(.ref a1)] 1)) t := by
    intro t k
    refine go0 t ?_
    show Steps p.tables e below (s₁.setTop (mkF m 0 #[.val (.ref a1)] [])) _
    refine XS.aloadN X0.here hx rfl (hb hby d9_0) rfl rfl ?_
    exact k
  obtain ⟨T2, X2, e2, st2⟩ := getF X0 hx hZ hown (host := "") (Or.inl (hw _ (List.mem_of_getElem? (i := 30) rfl))) Via.refl e0 F_count (g := (mkF m 1 #[.val (.ref a1)] [(.ref a1)])) rfl rfl (hb hby d9_1)
  have go3 : ∀ t, Steps p.tables e below (T2.setTop (mkF m 4 #[.val (.ref a1)] [(.int w_c)])) t → Steps p.tables e below (s₁.setTop (entryFrame m #[(.ref a1)] 1)) t := fun t k => go1 t (st2 _ k)
  obtain ⟨fs, hr, hrun, hended, hW, hsame⟩ := X2.leave (v := some (.int w_c)) (fun h => by rw [Bd.returns] at h; cases h)
  refine ⟨_, _, go3 _ ?_, hrun, hended, _, _, rfl, ?_, ⟨_, rfl⟩, hW, hsame.mono (by decide) (by decide)⟩
  · show Steps p.tables e below (T2.setTop (mkF m 4 #[.val (.ref a1)] [(.int w_c)])) _
    exact retI X2 hx Bd.returns (hb hby d9_4) hr
  · show Q9 Z a1 w_c h0 n0 _ T2.heap _
    rw [e2]
    exact ⟨rfl, N0, rfl⟩
theorem pd_0_0 : parseMethodDescriptor "(II)I" = some ⟨[.int, .int], some .int⟩ := by decide +kernel
theorem pd_0_1 : parseMethodDescriptor "(I)V" = some ⟨[.int], none⟩ := by decide +kernel
theorem pd_0_2 : parseMethodDescriptor "()I" = some ⟨[], some .int⟩ := by decide +kernel
theorem pn_0 : plainName "com/example/pheme/pheme/core/RingLengthToKeepPinLaw" = true := by first | (simp [plainName, overriddenIn]; done) | decide +kernel
theorem ef_0 (m : MethodId) (x0 : Int32) (x1 : Int32) (x2 : Int32) (x3 : Int32) : entryFrame m #[(.int x0), (.int x1), (.int x2), (.int x3)] maxLocals = mkF m 0 #[.val (.int x0), .val (.int x1), .val (.int x2), .val (.int x3), .unset, .unset, .unset, .unset, .unset, .unset, .unset] [] := by first | (simp [entryFrame, mkF, argsToLocals, Value.category, maxLocals]; done) | rfl
def Q0 (Z : State) (pa : Int32) (pb : Int32) (pc_ : Int32) (pd : Int32) (h0 : Heap) (n0 : Nat) (v : Option Value) (h : Heap) (L : List Loc) : Prop := v = some (.int (1 : Int32)) ∧ Fr n0 L
set_option maxRecDepth 65536 in
set_option maxHeartbeats 40000000 in
theorem rm0 (l : Launch) (Z : State) (a0 : Array Value) (hw : ∀ d ∈ tables_1, d.before a0 Z = true) (ws : List Jvm.Cond) (pa : Int32) (pb : Int32) (pc_ : Int32) (pd : Int32) (h0 : Heap) (n0 : Nat) (Z0 : n0 ≤ h0.size) :
    MetFree l x (head1 (Jvm.Cond.code x code maxLocals ret :: ws) room_1) (fun a U => a = #[(.int pa), (.int pb), (.int pc_), (.int pd)] ∧ Z.Warmed39 U.vm ∧ U.heap = h0) (fun _ _ _ _ _ => True) (fun _ U o U' => ∃ v L, o = .returned v ∧ Q0 Z pa pb pc_ pd h0 n0 v U'.heap L ∧ FrameEnd U o U' L room_1.cells room_1.slots) := by
  refine MetFree.of_bodySF (plainFor_of_name pn_0) hisR ?_
  intro p e s m args below meth c s₁ Bd hml0 hP hK
  obtain ⟨rfl, hZ, hh⟩ := hP
  have hx := Bd.exec
  have hby := Bd.bytes
  have hml : c.maxLocals = 11 := hml0
  have hown : s.vm.findClass "com/example/pheme/pheme/core/RingLengthToKeepPinLaw" = some m.cls := findClass_of_methodNamed Bd.named
  have hnm := (name_of_methodNamed Bd.named Bd.method).1
  have X0 : Stand p l e room_1 s m #[(.int pa), (.int pb), (.int pc_), (.int pd)] below meth c s₁ [] 0 0 := Stand.of_body Bd
  have e0 : s₁.heap = h0 := by rw [← hh, Bd.state]; rfl
  have N0 := Fr.nil n0
  have go0 : ∀ t, Steps p.tables e below (s₁.setTop (mkF m 0 #[.val (.int pa), .val (.int pb), .val (.int pc_), .val (.int pd), .unset, .unset, .unset, .unset, .unset, .unset, .unset] [])) t → Steps p.tables e below (s₁.setTop (entryFrame m #[(.int pa), (.int pb), (.int pc_), (.int pd)] maxLocals)) t := fun t k => castTop (ef_0 m pa pb pc_ pd) k
  obtain ⟨Tj1, Lj1, fl, ln, Xj1, ej1, Nj1, hp1, go7⟩ : ∃ (Tj1 : State) (Lj1 : List Loc) (fl : Int32) (ln : Int32), Stand p l e room_1 s m #[(.int pa), (.int pb), (.int pc_), (.int pd)] below meth c Tj1 Lj1 0 0 ∧ Tj1.heap = h0 ∧ Fr n0 Lj1 ∧ (0 < ln.toInt) ∧ (∀ t, Steps p.tables e below (Tj1.setTop (mkF m 35 #[.val (.int pa), .val (.int pb), .val (.int pc_), .val (.int pd), .val (.int fl), .unset, .unset, .unset, .unset, .unset, .unset] [(.int ln)])) t → Steps p.tables e below (s₁.setTop (entryFrame m #[(.int pa), (.int pb), (.int pc_), (.int pd)] maxLocals)) t) := by
    have go2 : ∀ t, Steps p.tables e below (s₁.setTop (mkF m 3 #[.val (.int pa), .val (.int pb), .val (.int pc_), .val (.int pd), .unset, .unset, .unset, .unset, .unset, .unset, .unset] [(.int (pd &&& (1 : Int32)))])) t → Steps p.tables e below (s₁.setTop (entryFrame m #[(.int pa), (.int pb), (.int pc_), (.int pd)] maxLocals)) t := by
      intro t k
      refine go0 t ?_
      show Steps p.tables e below (s₁.setTop (mkF m 0 #[.val (.int pa), .val (.int pb), .val (.int pc_), .val (.int pd), .unset, .unset, .unset, .unset, .unset, .unset, .unset] [])) _
      refine XS.iloadN X0.here hx rfl (hb hby at_0) rfl ?_
      show Steps p.tables e below (s₁.setTop (mkF m 1 #[.val (.int pa), .val (.int pb), .val (.int pc_), .val (.int pd), .unset, .unset, .unset, .unset, .unset, .unset, .unset] [(.int pd)])) _
      refine XS.iconst X0.here hx rfl (hb hby at_1) ?_
      show Steps p.tables e below (s₁.setTop (mkF m 2 #[.val (.int pa), .val (.int pb), .val (.int pc_), .val (.int pd), .unset, .unset, .unset, .unset, .unset, .unset, .unset] [(.int (1 : Int32)), (.int pd)])) _
      refine XS.iand X0.here hx rfl (hb hby at_2) rfl ?_
      exact k
    by_cases hc3 : (pd &&& (1 : Int32)) = (0 : Int32)
    · skip
      have go3 : ∀ t, Steps p.tables e below (s₁.setTop (mkF m 32 #[.val (.int pa), .val (.int pb), .val (.int pc_), .val (.int pd), .val (.int (0 : Int32)), .unset, .unset, .unset, .unset, .unset, .unset] [(.int (pa &&& (2147483647 : Int32))), (.int (1 : Int32))])) t → Steps p.tables e below (s₁.setTop (entryFrame m #[(.int pa), (.int pb), (.int pc_), (.int pd)] maxLocals)) t := by
        intro t k
        refine go2 t ?_
        show Steps p.tables e below (s₁.setTop (mkF m 3 #[.val (.int pa), .val (.int pb), .val (.int pc_), .val (.int pd), .unset, .unset, .unset, .unset, .unset, .unset, .unset] [(.int (pd &&& (1 : Int32)))])) _
        refine XS.ifYes X0.here hx rfl (pc0 := 3) (pc' := 10) rfl (hb hby at_3) rfl ((if0 _ _).trans (teq hc3).1) (by decide) (by decide) ?_
        show Steps p.tables e below (s₁.setTop (mkF m 10 #[.val (.int pa), .val (.int pb), .val (.int pc_), .val (.int pd), .unset, .unset, .unset, .unset, .unset, .unset, .unset] [])) _
        refine XS.iconst X0.here hx rfl (hb hby at_10) ?_
        show Steps p.tables e below (s₁.setTop (mkF m 11 #[.val (.int pa), .val (.int pb), .val (.int pc_), .val (.int pd), .unset, .unset, .unset, .unset, .unset, .unset, .unset] [(.int (0 : Int32))])) _
        refine XS.istore X0.here hx rfl (hb hby at_11) rfl (l' := #[.val (.int pa), .val (.int pb), .val (.int pc_), .val (.int pd), .val (.int (0 : Int32)), .unset, .unset, .unset, .unset, .unset, .unset]) rfl ?_
        show Steps p.tables e below (s₁.setTop (mkF m 13 #[.val (.int pa), .val (.int pb), .val (.int pc_), .val (.int pd), .val (.int (0 : Int32)), .unset, .unset, .unset, .unset, .unset, .unset] [])) _
        refine XS.iload X0.here hx rfl (hb hby at_13) rfl ?_
        show Steps p.tables e below (s₁.setTop (mkF m 15 #[.val (.int pa), .val (.int pb), .val (.int pc_), .val (.int pd), .val (.int (0 : Int32)), .unset, .unset, .unset, .unset, .unset, .unset] [(.int (0 : Int32))])) _
        refine XS.ifYes X0.here hx rfl (pc0 := 15) (pc' := 27) rfl (hb hby at_15) rfl ((if0 _ _).trans (teq rfl).1) (by decide) (by decide) ?_
        show Steps p.tables e below (s₁.setTop (mkF m 27 #[.val (.int pa), .val (.int pb), .val (.int pc_), .val (.int pd), .val (.int (0 : Int32)), .unset, .unset, .unset, .unset, .unset, .unset] [])) _
        refine XS.iconst X0.here hx rfl (hb hby at_27) ?_
        show Steps p.tables e below (s₁.setTop (mkF m 28 #[.val (.int pa), .val (.int pb), .val (.int pc_), .val (.int pd), .val (.int (0 : Int32)), .unset, .unset, .unset, .unset, .unset, .unset] [(.int (1 : Int32))])) _
        refine XS.iloadN X0.here hx rfl (hb hby at_28) rfl ?_
        show Steps p.tables e below (s₁.setTop (mkF m 29 #[.val (.int pa), .val (.int pb), .val (.int pc_), .val (.int pd), .val (.int (0 : Int32)), .unset, .unset, .unset, .unset, .unset, .unset] [(.int pa), (.int (1 : Int32))])) _
        refine X0.ldcInt hx hown (mvT hZ (hw _ (List.mem_of_getElem? (i := 0) rfl))) (g := (mkF m 29 #[.val (.int pa), .val (.int pb), .val (.int pc_), .val (.int pd), .val (.int (0 : Int32)), .unset, .unset, .unset, .unset, .unset, .unset] [(.int pa), (.int (1 : Int32))])) rfl (hb hby at_29) _ ?_
        show Steps p.tables e below (s₁.setTop (mkF m 31 #[.val (.int pa), .val (.int pb), .val (.int pc_), .val (.int pd), .val (.int (0 : Int32)), .unset, .unset, .unset, .unset, .unset, .unset] [(.int (2147483647 : Int32)), (.int pa), (.int (1 : Int32))])) _
        refine XS.iand X0.here hx rfl (hb hby at_31) rfl ?_
        exact k
      obtain ⟨_, _, ⟨T4, L4, k4, n4⟩, -, X4, ⟨Lc4, hQ4, l4, y4, z4⟩, st4⟩ := Jvm.LawKit.callS X0 hx (y := (⟨"java/lang/Math", "max", "(II)I"⟩ : MethodName)) hown (mvT hZ (hw _ (List.mem_of_getElem? (i := 52) rfl))) (mvT hZ (hw _ (List.mem_of_getElem? (i := 53) rfl))) (mvT hZ (hw _ (List.mem_of_getElem? (i := 3) rfl))) (mvT hZ (hw _ (List.mem_of_getElem? (i := 54) rfl))) (by decide) (backOf (W := 0) (rm10 l Z a0 hw [] (1 : Int32) (pa &&& (2147483647 : Int32)) h0 n0 Z0) hZ (hw _ (List.mem_of_getElem? (i := 54) rfl)) (hw _ (List.mem_of_getElem? (i := 3) rfl)) (by decide) (by decide)) (g := (mkF m 32 #[.val (.int pa), .val (.int pb), .val (.int pc_), .val (.int pd), .val (.int (0 : Int32)), .unset, .unset, .unset, .unset, .unset, .unset] [(.int (pa &&& (2147483647 : Int32))), (.int (1 : Int32))])) rfl (by rw [hml]; rfl) (argsL := [(.int (1 : Int32)), (.int (pa &&& (2147483647 : Int32)))]) (rest := []) (lenOf pd_0_0 rfl) rfl (by show 2 * 0 + _ ≤ _; exact Nat.le_of_eq rfl) (hb hby at_32) (fun _ _ => ⟨rfl, e0, (by decide : 0 + 0 ≤ _), (by decide : 0 + 0 ≤ _)⟩)
      dsimp only [Pt.U, Pt.locs, Pt.cells, Pt.slots] at X4 l4 y4 z4 st4 hQ4
      subst l4 y4 z4
      obtain ⟨rfl, N4q, e4⟩ := hQ4
      have N4 := Fr.app N0 N4q
      have go5 : ∀ t, Steps p.tables e below (T4.setTop (mkF m 35 #[.val (.int pa), .val (.int pb), .val (.int pc_), .val (.int pd), .val (.int (0 : Int32)), .unset, .unset, .unset, .unset, .unset, .unset] [(.int (own_max (1 : Int32) (pa &&& (2147483647 : Int32))))])) t → Steps p.tables e below (s₁.setTop (entryFrame m #[(.int pa), (.int pb), (.int pc_), (.int pd)] maxLocals)) t := fun t k => go3 t (st4 _ k)
      exact ⟨T4, _, (0 : Int32), (own_max (1 : Int32) (pa &&& (2147483647 : Int32))), X4, e4, N4, own_len2 _, go5⟩
    · skip
      have go6 : ∀ t, Steps p.tables e below (s₁.setTop (mkF m 35 #[.val (.int pa), .val (.int pb), .val (.int pc_), .val (.int pd), .val (.int (1 : Int32)), .unset, .unset, .unset, .unset, .unset, .unset] [(.int ((pa &&& (15 : Int32)) + (1 : Int32)))])) t → Steps p.tables e below (s₁.setTop (entryFrame m #[(.int pa), (.int pb), (.int pc_), (.int pd)] maxLocals)) t := by
        intro t k
        refine go2 t ?_
        show Steps p.tables e below (s₁.setTop (mkF m 3 #[.val (.int pa), .val (.int pb), .val (.int pc_), .val (.int pd), .unset, .unset, .unset, .unset, .unset, .unset, .unset] [(.int (pd &&& (1 : Int32)))])) _
        refine XS.ifNo X0.here hx rfl (hb hby at_3) rfl ((if0 _ _).trans (feq hc3).1) ?_
        show Steps p.tables e below (s₁.setTop (mkF m 6 #[.val (.int pa), .val (.int pb), .val (.int pc_), .val (.int pd), .unset, .unset, .unset, .unset, .unset, .unset, .unset] [])) _
        refine XS.iconst X0.here hx rfl (hb hby at_6) ?_
        show Steps p.tables e below (s₁.setTop (mkF m 7 #[.val (.int pa), .val (.int pb), .val (.int pc_), .val (.int pd), .unset, .unset, .unset, .unset, .unset, .unset, .unset] [(.int (1 : Int32))])) _
        refine XS.goto X0.here hx rfl (pc0 := 7) (pc' := 11) rfl (hb hby at_7) (by decide) (by decide) ?_
        show Steps p.tables e below (s₁.setTop (mkF m 11 #[.val (.int pa), .val (.int pb), .val (.int pc_), .val (.int pd), .unset, .unset, .unset, .unset, .unset, .unset, .unset] [(.int (1 : Int32))])) _
        refine XS.istore X0.here hx rfl (hb hby at_11) rfl (l' := #[.val (.int pa), .val (.int pb), .val (.int pc_), .val (.int pd), .val (.int (1 : Int32)), .unset, .unset, .unset, .unset, .unset, .unset]) rfl ?_
        show Steps p.tables e below (s₁.setTop (mkF m 13 #[.val (.int pa), .val (.int pb), .val (.int pc_), .val (.int pd), .val (.int (1 : Int32)), .unset, .unset, .unset, .unset, .unset, .unset] [])) _
        refine XS.iload X0.here hx rfl (hb hby at_13) rfl ?_
        show Steps p.tables e below (s₁.setTop (mkF m 15 #[.val (.int pa), .val (.int pb), .val (.int pc_), .val (.int pd), .val (.int (1 : Int32)), .unset, .unset, .unset, .unset, .unset, .unset] [(.int (1 : Int32))])) _
        refine XS.ifNo X0.here hx rfl (hb hby at_15) rfl ((if0 _ _).trans (feq (by decide)).1) ?_
        show Steps p.tables e below (s₁.setTop (mkF m 18 #[.val (.int pa), .val (.int pb), .val (.int pc_), .val (.int pd), .val (.int (1 : Int32)), .unset, .unset, .unset, .unset, .unset, .unset] [])) _
        refine XS.iloadN X0.here hx rfl (hb hby at_18) rfl ?_
        show Steps p.tables e below (s₁.setTop (mkF m 19 #[.val (.int pa), .val (.int pb), .val (.int pc_), .val (.int pd), .val (.int (1 : Int32)), .unset, .unset, .unset, .unset, .unset, .unset] [(.int pa)])) _
        refine XS.bipush X0.here hx rfl (hb hby at_19) ?_
        show Steps p.tables e below (s₁.setTop (mkF m 21 #[.val (.int pa), .val (.int pb), .val (.int pc_), .val (.int pd), .val (.int (1 : Int32)), .unset, .unset, .unset, .unset, .unset, .unset] [(.int (15 : Int32)), (.int pa)])) _
        refine XS.iand X0.here hx rfl (hb hby at_21) rfl ?_
        show Steps p.tables e below (s₁.setTop (mkF m 22 #[.val (.int pa), .val (.int pb), .val (.int pc_), .val (.int pd), .val (.int (1 : Int32)), .unset, .unset, .unset, .unset, .unset, .unset] [(.int (pa &&& (15 : Int32)))])) _
        refine XS.iconst X0.here hx rfl (hb hby at_22) ?_
        show Steps p.tables e below (s₁.setTop (mkF m 23 #[.val (.int pa), .val (.int pb), .val (.int pc_), .val (.int pd), .val (.int (1 : Int32)), .unset, .unset, .unset, .unset, .unset, .unset] [(.int (1 : Int32)), (.int (pa &&& (15 : Int32)))])) _
        refine XS.iadd X0.here hx rfl (hb hby at_23) rfl ?_
        show Steps p.tables e below (s₁.setTop (mkF m 24 #[.val (.int pa), .val (.int pb), .val (.int pc_), .val (.int pd), .val (.int (1 : Int32)), .unset, .unset, .unset, .unset, .unset, .unset] [(.int ((pa &&& (15 : Int32)) + (1 : Int32)))])) _
        refine XS.goto X0.here hx rfl (pc0 := 24) (pc' := 35) rfl (hb hby at_24) (by decide) (by decide) ?_
        exact k
      exact ⟨s₁, _, (1 : Int32), ((pa &&& (15 : Int32)) + (1 : Int32)), X0, e0, N0, own_len1 _, go6⟩
  have hln := hp1
  obtain ⟨fi, h_fi⟩ : ∃ z : Int32, z = ((1 : Int32) + ((pb &&& (2147483647 : Int32)) % ln)) := ⟨_, rfl⟩
  have go8 : ∀ t, Steps p.tables e below (Tj1.setTop (mkF m 48 #[.val (.int pa), .val (.int pb), .val (.int pc_), .val (.int pd), .val (.int fl), .val (.int ln), .val (.int fi), .unset, .unset, .unset, .unset] [])) t → Steps p.tables e below (s₁.setTop (entryFrame m #[(.int pa), (.int pb), (.int pc_), (.int pd)] maxLocals)) t := by
    intro t k
    rw [h_fi] at k
    refine go7 t ?_
    show Steps p.tables e below (Tj1.setTop (mkF m 35 #[.val (.int pa), .val (.int pb), .val (.int pc_), .val (.int pd), .val (.int fl), .unset, .unset, .unset, .unset, .unset, .unset] [(.int ln)])) _
    refine XS.istore Xj1.here hx rfl (hb hby at_35) rfl (l' := #[.val (.int pa), .val (.int pb), .val (.int pc_), .val (.int pd), .val (.int fl), .val (.int ln), .unset, .unset, .unset, .unset, .unset]) rfl ?_
    show Steps p.tables e below (Tj1.setTop (mkF m 37 #[.val (.int pa), .val (.int pb), .val (.int pc_), .val (.int pd), .val (.int fl), .val (.int ln), .unset, .unset, .unset, .unset, .unset] [])) _
    refine XS.iconst Xj1.here hx rfl (hb hby at_37) ?_
    show Steps p.tables e below (Tj1.setTop (mkF m 38 #[.val (.int pa), .val (.int pb), .val (.int pc_), .val (.int pd), .val (.int fl), .val (.int ln), .unset, .unset, .unset, .unset, .unset] [(.int (1 : Int32))])) _
    refine XS.iloadN Xj1.here hx rfl (hb hby at_38) rfl ?_
    show Steps p.tables e below (Tj1.setTop (mkF m 39 #[.val (.int pa), .val (.int pb), .val (.int pc_), .val (.int pd), .val (.int fl), .val (.int ln), .unset, .unset, .unset, .unset, .unset] [(.int pb), (.int (1 : Int32))])) _
    refine Xj1.ldcInt hx hown (mvT hZ (hw _ (List.mem_of_getElem? (i := 0) rfl))) (g := (mkF m 39 #[.val (.int pa), .val (.int pb), .val (.int pc_), .val (.int pd), .val (.int fl), .val (.int ln), .unset, .unset, .unset, .unset, .unset] [(.int pb), (.int (1 : Int32))])) rfl (hb hby at_39) _ ?_
    show Steps p.tables e below (Tj1.setTop (mkF m 41 #[.val (.int pa), .val (.int pb), .val (.int pc_), .val (.int pd), .val (.int fl), .val (.int ln), .unset, .unset, .unset, .unset, .unset] [(.int (2147483647 : Int32)), (.int pb), (.int (1 : Int32))])) _
    refine XS.iand Xj1.here hx rfl (hb hby at_41) rfl ?_
    show Steps p.tables e below (Tj1.setTop (mkF m 42 #[.val (.int pa), .val (.int pb), .val (.int pc_), .val (.int pd), .val (.int fl), .val (.int ln), .unset, .unset, .unset, .unset, .unset] [(.int (pb &&& (2147483647 : Int32))), (.int (1 : Int32))])) _
    refine XS.iload Xj1.here hx rfl (hb hby at_42) rfl ?_
    show Steps p.tables e below (Tj1.setTop (mkF m 44 #[.val (.int pa), .val (.int pb), .val (.int pc_), .val (.int pd), .val (.int fl), .val (.int ln), .unset, .unset, .unset, .unset, .unset] [(.int ln), (.int (pb &&& (2147483647 : Int32))), (.int (1 : Int32))])) _
    refine iremM Xj1 hx rfl (hb hby at_44) rfl (own_ne0 hln) ?_
    show Steps p.tables e below (Tj1.setTop (mkF m 45 #[.val (.int pa), .val (.int pb), .val (.int pc_), .val (.int pd), .val (.int fl), .val (.int ln), .unset, .unset, .unset, .unset, .unset] [(.int ((pb &&& (2147483647 : Int32)) % ln)), (.int (1 : Int32))])) _
    refine XS.iadd Xj1.here hx rfl (hb hby at_45) rfl ?_
    show Steps p.tables e below (Tj1.setTop (mkF m 46 #[.val (.int pa), .val (.int pb), .val (.int pc_), .val (.int pd), .val (.int fl), .val (.int ln), .unset, .unset, .unset, .unset, .unset] [(.int ((1 : Int32) + ((pb &&& (2147483647 : Int32)) % ln)))])) _
    refine XS.istore Xj1.here hx rfl (hb hby at_46) rfl (l' := #[.val (.int pa), .val (.int pb), .val (.int pc_), .val (.int pd), .val (.int fl), .val (.int ln), .val (.int ((1 : Int32) + ((pb &&& (2147483647 : Int32)) % ln))), .unset, .unset, .unset, .unset]) rfl ?_
    exact k
  have go9 : ∀ t, Steps p.tables e below (Tj1.setTop (mkF m 53 #[.val (.int pa), .val (.int pb), .val (.int pc_), .val (.int pd), .val (.int fl), .val (.int ln), .val (.int fi), .unset, .unset, .unset, .unset] [(.int ln), (.int (pc_ &&& (3 : Int32)))])) t → Steps p.tables e below (s₁.setTop (entryFrame m #[(.int pa), (.int pb), (.int pc_), (.int pd)] maxLocals)) t := by
    intro t k
    refine go8 t ?_
    show Steps p.tables e below (Tj1.setTop (mkF m 48 #[.val (.int pa), .val (.int pb), .val (.int pc_), .val (.int pd), .val (.int fl), .val (.int ln), .val (.int fi), .unset, .unset, .unset, .unset] [])) _
    refine XS.iloadN Xj1.here hx rfl (hb hby at_48) rfl ?_
    show Steps p.tables e below (Tj1.setTop (mkF m 49 #[.val (.int pa), .val (.int pb), .val (.int pc_), .val (.int pd), .val (.int fl), .val (.int ln), .val (.int fi), .unset, .unset, .unset, .unset] [(.int pc_)])) _
    refine XS.iconst Xj1.here hx rfl (hb hby at_49) ?_
    show Steps p.tables e below (Tj1.setTop (mkF m 50 #[.val (.int pa), .val (.int pb), .val (.int pc_), .val (.int pd), .val (.int fl), .val (.int ln), .val (.int fi), .unset, .unset, .unset, .unset] [(.int (3 : Int32)), (.int pc_)])) _
    refine XS.iand Xj1.here hx rfl (hb hby at_50) rfl ?_
    show Steps p.tables e below (Tj1.setTop (mkF m 51 #[.val (.int pa), .val (.int pb), .val (.int pc_), .val (.int pd), .val (.int fl), .val (.int ln), .val (.int fi), .unset, .unset, .unset, .unset] [(.int (pc_ &&& (3 : Int32)))])) _
    refine XS.iload Xj1.here hx rfl (hb hby at_51) rfl ?_
    exact k
  obtain ⟨_, _, ⟨T10, L10, k10, n10⟩, -, X10, ⟨Lc10, hQ10, l10, y10, z10⟩, st10⟩ := Jvm.LawKit.callS Xj1 hx (y := (⟨"java/lang/Math", "min", "(II)I"⟩ : MethodName)) hown (mvT hZ (hw _ (List.mem_of_getElem? (i := 1) rfl))) (mvT hZ (hw _ (List.mem_of_getElem? (i := 2) rfl))) (mvT hZ (hw _ (List.mem_of_getElem? (i := 3) rfl))) (mvT hZ (hw _ (List.mem_of_getElem? (i := 4) rfl))) (by decide) (backOf (W := 0) (rm1 l Z a0 hw [] (pc_ &&& (3 : Int32)) ln h0 n0 Z0) hZ (hw _ (List.mem_of_getElem? (i := 4) rfl)) (hw _ (List.mem_of_getElem? (i := 3) rfl)) (by decide) (by decide)) (g := (mkF m 53 #[.val (.int pa), .val (.int pb), .val (.int pc_), .val (.int pd), .val (.int fl), .val (.int ln), .val (.int fi), .unset, .unset, .unset, .unset] [(.int ln), (.int (pc_ &&& (3 : Int32)))])) rfl (by rw [hml]; rfl) (argsL := [(.int (pc_ &&& (3 : Int32))), (.int ln)]) (rest := []) (lenOf pd_0_0 rfl) rfl (by show 2 * 0 + _ ≤ _; exact Nat.le_of_eq rfl) (hb hby at_53) (fun _ _ => ⟨rfl, ej1, (by decide : 0 + 0 ≤ _), (by decide : 0 + 0 ≤ _)⟩)
  dsimp only [Pt.U, Pt.locs, Pt.cells, Pt.slots] at X10 l10 y10 z10 st10 hQ10
  subst l10 y10 z10
  obtain ⟨rfl, N10q, e10⟩ := hQ10
  have N10 := Fr.app Nj1 N10q
  have go11 : ∀ t, Steps p.tables e below (T10.setTop (mkF m 56 #[.val (.int pa), .val (.int pb), .val (.int pc_), .val (.int pd), .val (.int fl), .val (.int ln), .val (.int fi), .unset, .unset, .unset, .unset] [(.int (own_min (pc_ &&& (3 : Int32)) ln))])) t → Steps p.tables e below (s₁.setTop (entryFrame m #[(.int pa), (.int pb), (.int pc_), (.int pd)] maxLocals)) t := fun t k => go9 t (st10 _ k)
  obtain ⟨ct, h_ct⟩ : ∃ z : Int32, z = (own_min (pc_ &&& (3 : Int32)) ln) := ⟨_, rfl⟩
  have go12 : ∀ t, Steps p.tables e below (T10.setTop (mkF m 58 #[.val (.int pa), .val (.int pb), .val (.int pc_), .val (.int pd), .val (.int fl), .val (.int ln), .val (.int fi), .val (.int ct), .unset, .unset, .unset] [])) t → Steps p.tables e below (s₁.setTop (entryFrame m #[(.int pa), (.int pb), (.int pc_), (.int pd)] maxLocals)) t := by
    intro t k
    rw [h_ct] at k
    refine go11 t ?_
    show Steps p.tables e below (T10.setTop (mkF m 56 #[.val (.int pa), .val (.int pb), .val (.int pc_), .val (.int pd), .val (.int fl), .val (.int ln), .val (.int fi), .unset, .unset, .unset, .unset] [(.int (own_min (pc_ &&& (3 : Int32)) ln))])) _
    refine XS.istore X10.here hx rfl (hb hby at_56) rfl (l' := #[.val (.int pa), .val (.int pb), .val (.int pc_), .val (.int pd), .val (.int fl), .val (.int ln), .val (.int fi), .val (.int (own_min (pc_ &&& (3 : Int32)) ln)), .unset, .unset, .unset]) rfl ?_
    exact k
  have hct : 0 ≤ ct.toInt ∧ ct.toInt ≤ 3 := by rw [h_ct]; exact own_ct _ _ hln
  obtain ⟨T13, h13, X13, e13, E13, A13, D13, -, st13⟩ := newO X10 hx hZ hown (hw _ (List.mem_of_getElem? (i := 5) rfl)) (hw _ (List.mem_of_getElem? (i := 6) rfl)) (hw _ (List.mem_of_getElem? (i := 7) rfl)) e10 (g := (mkF m 58 #[.val (.int pa), .val (.int pb), .val (.int pc_), .val (.int pd), .val (.int fl), .val (.int ln), .val (.int fi), .val (.int ct), .unset, .unset, .unset] [])) rfl (hb hby at_58) (by decide) (by decide)
  obtain ⟨b13, g13⟩ : ∃ z, z = h0.size := ⟨_, rfl⟩
  rw [← g13] at A13 D13 st13
  have g_b13 : n0 ≤ b13 := Nat.le_trans Z0 (Nat.le_of_eq g13.symm)
  have Z13 : n0 ≤ h13.size := Nat.le_trans Z0 E13.1
  have F_firstLength_b13 : Fld Z h13 b13 "com/example/pheme/pheme/core/Ring" "firstLength" "I" (.int (0 : Int32)) := D13 (Or.inr (hw _ (List.mem_of_getElem? (i := 15) rfl))) (ty := .int) (by decide)
  have F_length_b13 : Fld Z h13 b13 "com/example/pheme/pheme/core/Ring" "length" "I" (.int (0 : Int32)) := D13 (Or.inl (hw _ (List.mem_of_getElem? (i := 17) rfl))) (ty := .int) (by decide)
  have F_oldest_b13 : Fld Z h13 b13 "com/example/pheme/pheme/core/Ring" "oldest" "I" (.int (0 : Int32)) := D13 (Or.inl (hw _ (List.mem_of_getElem? (i := 24) rfl))) (ty := .int) (by decide)
  have F_count_b13 : Fld Z h13 b13 "com/example/pheme/pheme/core/Ring" "count" "I" (.int (0 : Int32)) := D13 (Or.inl (hw _ (List.mem_of_getElem? (i := 31) rfl))) (ty := .int) (by decide)
  have go14 : ∀ t, Steps p.tables e below (T13.setTop (mkF m 61 #[.val (.int pa), .val (.int pb), .val (.int pc_), .val (.int pd), .val (.int fl), .val (.int ln), .val (.int fi), .val (.int ct), .unset, .unset, .unset] [(.ref b13)])) t → Steps p.tables e below (s₁.setTop (entryFrame m #[(.int pa), (.int pb), (.int pc_), (.int pd)] maxLocals)) t := fun t k => go12 t (st13 _ k)
  have go15 : ∀ t, Steps p.tables e below (T13.setTop (mkF m 64 #[.val (.int pa), .val (.int pb), .val (.int pc_), .val (.int pd), .val (.int fl), .val (.int ln), .val (.int fi), .val (.int ct), .unset, .unset, .unset] [(.int fi), (.ref b13), (.ref b13)])) t → Steps p.tables e below (s₁.setTop (entryFrame m #[(.int pa), (.int pb), (.int pc_), (.int pd)] maxLocals)) t := by
    intro t k
    refine go14 t ?_
    show Steps p.tables e below (T13.setTop (mkF m 61 #[.val (.int pa), .val (.int pb), .val (.int pc_), .val (.int pd), .val (.int fl), .val (.int ln), .val (.int fi), .val (.int ct), .unset, .unset, .unset] [(.ref b13)])) _
    refine XS.dup X13.here hx rfl (hb hby at_61) rfl rfl ?_
    show Steps p.tables e below (T13.setTop (mkF m 62 #[.val (.int pa), .val (.int pb), .val (.int pc_), .val (.int pd), .val (.int fl), .val (.int ln), .val (.int fi), .val (.int ct), .unset, .unset, .unset] [(.ref b13), (.ref b13)])) _
    refine XS.iload X13.here hx rfl (hb hby at_62) rfl ?_
    exact k
  obtain ⟨_, _, ⟨T16, L16, k16, n16⟩, -, X16, ⟨Lc16, hQ16, l16, y16, z16⟩, st16⟩ := X13.specialBack hx (y := (⟨"com/example/pheme/pheme/core/Ring", "<init>", "(I)V"⟩ : MethodName)) rfl hown (mvT hZ (hw _ (List.mem_of_getElem? (i := 8) rfl))) (mvT hZ (hw _ (List.mem_of_getElem? (i := 9) rfl))) (mvT hZ (hw _ (List.mem_of_getElem? (i := 10) rfl))) (by decide) (backOf (W := 1) (rm2 l Z a0 hw [] b13 fi (.int 0) (.int 0) 0 0 h13 n0 Z13 A13 g_b13 F_firstLength_b13 F_length_b13 F_oldest_b13 F_count_b13) hZ (hw _ (List.mem_of_getElem? (i := 10) rfl)) (hw _ (List.mem_of_getElem? (i := 7) rfl)) (by decide) (by decide)) (g := (mkF m 64 #[.val (.int pa), .val (.int pb), .val (.int pc_), .val (.int pd), .val (.int fl), .val (.int ln), .val (.int fi), .val (.int ct), .unset, .unset, .unset] [(.int fi), (.ref b13), (.ref b13)])) rfl (by rw [hml]; rfl) (Steps.refl _) (a := b13) (argsL := [(.int fi)]) (rest := [(.ref b13)]) (lenOf pd_0_1 rfl) rfl (by show 2 * 0 + _ ≤ _; exact Nat.le_of_eq rfl) (hb hby at_64) (fun _ _ => ⟨rfl, e13, (by decide : 1 + 0 ≤ _), (by decide : 4 + 0 ≤ _)⟩)
  dsimp only [Pt.U, Pt.locs, Pt.cells, Pt.slots] at X16 l16 y16 z16 st16 hQ16
  subst l16 y16 z16
  obtain ⟨rfl, N16q, K16, E16b, F16_0, F16_1, F16_2, F16_3⟩ := hQ16
  have Z16 : n0 ≤ T16.heap.size := Nat.le_trans Z13 K16.1
  have N16 := Fr.app N10 N16q
  have go17 : ∀ t, Steps p.tables e below (T16.setTop (mkF m 67 #[.val (.int pa), .val (.int pb), .val (.int pc_), .val (.int pd), .val (.int fl), .val (.int ln), .val (.int fi), .val (.int ct), .unset, .unset, .unset] [(.ref b13)])) t → Steps p.tables e below (s₁.setTop (entryFrame m #[(.int pa), (.int pb), (.int pc_), (.int pd)] maxLocals)) t := fun t k => go15 t (st16.trans k)
  have go18 : ∀ t, Steps p.tables e below (T16.setTop (mkF m 73 #[.val (.int pa), .val (.int pb), .val (.int pc_), .val (.int pd), .val (.int fl), .val (.int ln), .val (.int fi), .val (.int ct), .val (.ref b13), .unset, .unset] [(.int ln), (.ref b13)])) t → Steps p.tables e below (s₁.setTop (entryFrame m #[(.int pa), (.int pb), (.int pc_), (.int pd)] maxLocals)) t := by
    intro t k
    refine go17 t ?_
    show Steps p.tables e below (T16.setTop (mkF m 67 #[.val (.int pa), .val (.int pb), .val (.int pc_), .val (.int pd), .val (.int fl), .val (.int ln), .val (.int fi), .val (.int ct), .unset, .unset, .unset] [(.ref b13)])) _
    refine XS.astore X16.here hx rfl (hb hby at_67) rfl rfl (l' := #[.val (.int pa), .val (.int pb), .val (.int pc_), .val (.int pd), .val (.int fl), .val (.int ln), .val (.int fi), .val (.int ct), .val (.ref b13), .unset, .unset]) rfl ?_
    show Steps p.tables e below (T16.setTop (mkF m 69 #[.val (.int pa), .val (.int pb), .val (.int pc_), .val (.int pd), .val (.int fl), .val (.int ln), .val (.int fi), .val (.int ct), .val (.ref b13), .unset, .unset] [])) _
    refine XS.aload X16.here hx rfl (hb hby at_69) rfl rfl ?_
    show Steps p.tables e below (T16.setTop (mkF m 71 #[.val (.int pa), .val (.int pb), .val (.int pc_), .val (.int pd), .val (.int fl), .val (.int ln), .val (.int fi), .val (.int ct), .val (.ref b13), .unset, .unset] [(.ref b13)])) _
    refine XS.iload X16.here hx rfl (hb hby at_71) rfl ?_
    exact k
  obtain ⟨cq19, kq19, q19a, q19b, q19c⟩ := isOf hZ rfl E16b
  obtain ⟨_, _, ⟨T19, L19, k19, n19⟩, -, X19, ⟨Lc19, hQ19, l19, y19, z19⟩, st19⟩ := X16.virtualBack hx (y := (⟨"com/example/pheme/pheme/core/Ring", "resized", "(I)V"⟩ : MethodName)) (z := (⟨"com/example/pheme/pheme/core/Ring", "resized", "(I)V"⟩ : MethodName)) hown (mvT hZ (hw _ (List.mem_of_getElem? (i := 18) rfl))) (mvT hZ (hw _ (List.mem_of_getElem? (i := 19) rfl))) (notFace_of_selects (args := #[]) (mvT hZ (hw _ (List.mem_of_getElem? (i := 21) rfl)))) (mvT hZ (hw _ (List.mem_of_getElem? (i := 21) rfl))) (mvT hZ (hw _ (List.mem_of_getElem? (i := 20) rfl))) (by decide) (backOf (W := 0) (rm4 l Z a0 hw [] b13 ln fi fi (0 : Int32) (0 : Int32) T16.heap n0 Z16 E16b g_b13 F16_0 F16_1 F16_2 F16_3) hZ (hw _ (List.mem_of_getElem? (i := 22) rfl)) (hw _ (List.mem_of_getElem? (i := 7) rfl)) (by decide) (by decide)) q19a q19c (g := (mkF m 73 #[.val (.int pa), .val (.int pb), .val (.int pc_), .val (.int pd), .val (.int fl), .val (.int ln), .val (.int fi), .val (.int ct), .val (.ref b13), .unset, .unset] [(.int ln), (.ref b13)])) rfl (by rw [hml]; rfl) (Steps.refl _) (argsL := [(.int ln)]) (rest := []) (lenOf pd_0_1 rfl) rfl (by show 2 * 0 + _ ≤ _; exact Nat.le_of_eq rfl) (hb hby at_73) (fun _ _ => ⟨rfl, rfl, (by decide : 1 + 0 ≤ _), (by decide : 4 + 0 ≤ _)⟩)
  dsimp only [Pt.U, Pt.locs, Pt.cells, Pt.slots] at X19 l19 y19 z19 st19 hQ19
  subst l19 y19 z19
  obtain ⟨rfl, N19q, K19, E19b, F19_0, F19_1, F19_2, F19_3⟩ := hQ19
  have Z19 : n0 ≤ T19.heap.size := Nat.le_trans Z16 K19.1
  have N19 := Fr.app N16 N19q
  have go20 : ∀ t, Steps p.tables e below (T19.setTop (mkF m 76 #[.val (.int pa), .val (.int pb), .val (.int pc_), .val (.int pd), .val (.int fl), .val (.int ln), .val (.int fi), .val (.int ct), .val (.ref b13), .unset, .unset] [])) t → Steps p.tables e below (s₁.setTop (entryFrame m #[(.int pa), (.int pb), (.int pc_), (.int pd)] maxLocals)) t := fun t k => go18 t (st19.trans k)
  obtain ⟨Tj21, hj21, Lj21, Xj21, ej21, Nj21, Zj21, f21_0, f21_1, f21_2, f21_3, f21_4, go30⟩ : ∃ (Tj21 : State) (hj21 : Heap) (Lj21 : List Loc) , Stand p l e room_1 s m #[(.int pa), (.int pb), (.int pc_), (.int pd)] below meth c Tj21 Lj21 1 4 ∧ Tj21.heap = hj21 ∧ Fr n0 Lj21 ∧ n0 ≤ hj21.size ∧ Exa Z hj21 b13 "com/example/pheme/pheme/core/Ring" ∧ Fld Z hj21 b13 "com/example/pheme/pheme/core/Ring" "firstLength" "I" (.int fi) ∧ Fld Z hj21 b13 "com/example/pheme/pheme/core/Ring" "length" "I" (.int ln) ∧ Fld Z hj21 b13 "com/example/pheme/pheme/core/Ring" "oldest" "I" (.int (0 : Int32)) ∧ Fld Z hj21 b13 "com/example/pheme/pheme/core/Ring" "count" "I" (.int (own_inc ct 0 (0 : Int32))) ∧ (∀ t, Steps p.tables e below (Tj21.setTop (mkF m 87 #[.val (.int pa), .val (.int pb), .val (.int pc_), .val (.int pd), .val (.int fl), .val (.int ln), .val (.int fi), .val (.int ct), .val (.ref b13), .unset, .unset] [])) t → Steps p.tables e below (s₁.setTop (entryFrame m #[(.int pa), (.int pb), (.int pc_), (.int pd)] maxLocals)) t) := by
    have go22 : ∀ t, Steps p.tables e below (T19.setTop (mkF m 78 #[.val (.int pa), .val (.int pb), .val (.int pc_), .val (.int pd), .val (.int fl), .val (.int ln), .val (.int fi), .val (.int ct), .val (.ref b13), .unset, .unset] [(.int ct)])) t → Steps p.tables e below (s₁.setTop (entryFrame m #[(.int pa), (.int pb), (.int pc_), (.int pd)] maxLocals)) t := by
      intro t k
      refine go20 t ?_
      show Steps p.tables e below (T19.setTop (mkF m 76 #[.val (.int pa), .val (.int pb), .val (.int pc_), .val (.int pd), .val (.int fl), .val (.int ln), .val (.int fi), .val (.int ct), .val (.ref b13), .unset, .unset] [])) _
      refine XS.iload X19.here hx rfl (hb hby at_76) rfl ?_
      exact k
    by_cases hc78 : (0 : Int32) < ct
    · skip
      have go23 : ∀ t, Steps p.tables e below (T19.setTop (mkF m 83 #[.val (.int pa), .val (.int pb), .val (.int pc_), .val (.int pd), .val (.int fl), .val (.int ln), .val (.int fi), .val (.int ct), .val (.ref b13), .unset, .unset] [(.ref b13)])) t → Steps p.tables e below (s₁.setTop (entryFrame m #[(.int pa), (.int pb), (.int pc_), (.int pd)] maxLocals)) t := by
        intro t k
        refine go22 t ?_
        show Steps p.tables e below (T19.setTop (mkF m 78 #[.val (.int pa), .val (.int pb), .val (.int pc_), .val (.int pd), .val (.int fl), .val (.int ln), .val (.int fi), .val (.int ct), .val (.ref b13), .unset, .unset] [(.int ct)])) _
        refine XS.ifNo X19.here hx rfl (hb hby at_78) rfl ((if0 _ _).trans (tlt hc78).2.2.2) ?_
        show Steps p.tables e below (T19.setTop (mkF m 81 #[.val (.int pa), .val (.int pb), .val (.int pc_), .val (.int pd), .val (.int fl), .val (.int ln), .val (.int fi), .val (.int ct), .val (.ref b13), .unset, .unset] [])) _
        refine XS.aload X19.here hx rfl (hb hby at_81) rfl rfl ?_
        exact k
      obtain ⟨cq24, kq24, q24a, q24b, q24c⟩ := isOf hZ rfl E19b
      obtain ⟨_, _, ⟨T24, L24, k24, n24⟩, -, X24, ⟨Lc24, hQ24, l24, y24, z24⟩, st24⟩ := X19.virtualBack hx (y := (⟨"com/example/pheme/pheme/core/Ring", "add", "()I"⟩ : MethodName)) (z := (⟨"com/example/pheme/pheme/core/Ring", "add", "()I"⟩ : MethodName)) hown (mvT hZ (hw _ (List.mem_of_getElem? (i := 25) rfl))) (mvT hZ (hw _ (List.mem_of_getElem? (i := 26) rfl))) (notFace_of_selects (args := #[]) (mvT hZ (hw _ (List.mem_of_getElem? (i := 28) rfl)))) (mvT hZ (hw _ (List.mem_of_getElem? (i := 28) rfl))) (mvT hZ (hw _ (List.mem_of_getElem? (i := 27) rfl))) (by decide) (backOf (W := 0) (rm5 l Z a0 hw [] b13 fi ln (0 : Int32) (0 : Int32) T19.heap n0 Z19 E19b g_b13 F19_0 F19_1 F19_2 F19_3 (own_ne0 hln)) hZ (hw _ (List.mem_of_getElem? (i := 29) rfl)) (hw _ (List.mem_of_getElem? (i := 7) rfl)) (by decide) (by decide)) q24a q24c (g := (mkF m 83 #[.val (.int pa), .val (.int pb), .val (.int pc_), .val (.int pd), .val (.int fl), .val (.int ln), .val (.int fi), .val (.int ct), .val (.ref b13), .unset, .unset] [(.ref b13)])) rfl (by rw [hml]; rfl) (Steps.refl _) (argsL := []) (rest := []) (lenOf pd_0_2 rfl) rfl (by show 2 * 0 + _ ≤ _; exact Nat.le_of_eq rfl) (hb hby at_83) (fun _ _ => ⟨rfl, rfl, (by decide : 1 + 0 ≤ _), (by decide : 4 + 0 ≤ _)⟩)
      dsimp only [Pt.U, Pt.locs, Pt.cells, Pt.slots] at X24 l24 y24 z24 st24 hQ24
      subst l24 y24 z24
      obtain ⟨rfl, N24q, K24, E24b, F24_0, F24_1, F24_2, F24_3⟩ := hQ24
      have Z24 : n0 ≤ T24.heap.size := Nat.le_trans Z19 K24.1
      have N24 := Fr.app N19 N24q
      have go25 : ∀ t, Steps p.tables e below (T24.setTop (mkF m 86 #[.val (.int pa), .val (.int pb), .val (.int pc_), .val (.int pd), .val (.int fl), .val (.int ln), .val (.int fi), .val (.int ct), .val (.ref b13), .unset, .unset] [(.int (((0 : Int32) + (0 : Int32)) % ln))])) t → Steps p.tables e below (s₁.setTop (entryFrame m #[(.int pa), (.int pb), (.int pc_), (.int pd)] maxLocals)) t := fun t k => go23 t (st24.trans k)
      have go27 : ∀ t, Steps p.tables e below (T24.setTop (mkF m 87 #[.val (.int pa), .val (.int pb), .val (.int pc_), .val (.int pd), .val (.int fl), .val (.int ln), .val (.int fi), .val (.int ct), .val (.ref b13), .unset, .unset] [])) t → Steps p.tables e below (s₁.setTop (entryFrame m #[(.int pa), (.int pb), (.int pc_), (.int pd)] maxLocals)) t := by
        intro t k
        refine go25 t ?_
        show Steps p.tables e below (T24.setTop (mkF m 86 #[.val (.int pa), .val (.int pb), .val (.int pc_), .val (.int pd), .val (.int fl), .val (.int ln), .val (.int fi), .val (.int ct), .val (.ref b13), .unset, .unset] [(.int (((0 : Int32) + (0 : Int32)) % ln))])) _
        refine XS.pop X24.here hx rfl (hb hby at_86) rfl rfl ?_
        exact k
      have fc26 : Fld Z T24.heap b13 "com/example/pheme/pheme/core/Ring" "count" "I" (.int (own_inc ct 0 (0 : Int32))) := by rw [own_inc, if_pos hc78]; exact F24_3
      exact ⟨T24, T24.heap, _, X24, rfl, N24, Z24, E24b, F24_0, F24_1, F24_2, fc26, go27⟩
    · skip
      have go29 : ∀ t, Steps p.tables e below (T19.setTop (mkF m 87 #[.val (.int pa), .val (.int pb), .val (.int pc_), .val (.int pd), .val (.int fl), .val (.int ln), .val (.int fi), .val (.int ct), .val (.ref b13), .unset, .unset] [])) t → Steps p.tables e below (s₁.setTop (entryFrame m #[(.int pa), (.int pb), (.int pc_), (.int pd)] maxLocals)) t := by
        intro t k
        refine go22 t ?_
        show Steps p.tables e below (T19.setTop (mkF m 78 #[.val (.int pa), .val (.int pb), .val (.int pc_), .val (.int pd), .val (.int fl), .val (.int ln), .val (.int fi), .val (.int ct), .val (.ref b13), .unset, .unset] [(.int ct)])) _
        refine XS.ifYes X19.here hx rfl (pc0 := 78) (pc' := 87) rfl (hb hby at_78) rfl ((if0 _ _).trans (flt hc78).2.2.2) (by decide) (by decide) ?_
        exact k
      have fc28 : Fld Z T19.heap b13 "com/example/pheme/pheme/core/Ring" "count" "I" (.int (own_inc ct 0 (0 : Int32))) := by rw [own_inc, if_neg hc78]; exact F19_3
      exact ⟨T19, T19.heap, _, X19, rfl, N19, Z19, E19b, F19_0, F19_1, F19_2, fc28, go29⟩
  obtain ⟨Tj31, hj31, Lj31, Xj31, ej31, Nj31, Zj31, f31_0, f31_1, f31_2, f31_3, f31_4, go40⟩ : ∃ (Tj31 : State) (hj31 : Heap) (Lj31 : List Loc) , Stand p l e room_1 s m #[(.int pa), (.int pb), (.int pc_), (.int pd)] below meth c Tj31 Lj31 1 4 ∧ Tj31.heap = hj31 ∧ Fr n0 Lj31 ∧ n0 ≤ hj31.size ∧ Exa Z hj31 b13 "com/example/pheme/pheme/core/Ring" ∧ Fld Z hj31 b13 "com/example/pheme/pheme/core/Ring" "firstLength" "I" (.int fi) ∧ Fld Z hj31 b13 "com/example/pheme/pheme/core/Ring" "length" "I" (.int ln) ∧ Fld Z hj31 b13 "com/example/pheme/pheme/core/Ring" "oldest" "I" (.int (0 : Int32)) ∧ Fld Z hj31 b13 "com/example/pheme/pheme/core/Ring" "count" "I" (.int (own_inc ct 1 (own_inc ct 0 (0 : Int32)))) ∧ (∀ t, Steps p.tables e below (Tj31.setTop (mkF m 99 #[.val (.int pa), .val (.int pb), .val (.int pc_), .val (.int pd), .val (.int fl), .val (.int ln), .val (.int fi), .val (.int ct), .val (.ref b13), .unset, .unset] [])) t → Steps p.tables e below (s₁.setTop (entryFrame m #[(.int pa), (.int pb), (.int pc_), (.int pd)] maxLocals)) t) := by
    have go32 : ∀ t, Steps p.tables e below (Tj21.setTop (mkF m 90 #[.val (.int pa), .val (.int pb), .val (.int pc_), .val (.int pd), .val (.int fl), .val (.int ln), .val (.int fi), .val (.int ct), .val (.ref b13), .unset, .unset] [(.int (1 : Int32)), (.int ct)])) t → Steps p.tables e below (s₁.setTop (entryFrame m #[(.int pa), (.int pb), (.int pc_), (.int pd)] maxLocals)) t := by
      intro t k
      refine go30 t ?_
      show Steps p.tables e below (Tj21.setTop (mkF m 87 #[.val (.int pa), .val (.int pb), .val (.int pc_), .val (.int pd), .val (.int fl), .val (.int ln), .val (.int fi), .val (.int ct), .val (.ref b13), .unset, .unset] [])) _
      refine XS.iload Xj21.here hx rfl (hb hby at_87) rfl ?_
      show Steps p.tables e below (Tj21.setTop (mkF m 89 #[.val (.int pa), .val (.int pb), .val (.int pc_), .val (.int pd), .val (.int fl), .val (.int ln), .val (.int fi), .val (.int ct), .val (.ref b13), .unset, .unset] [(.int ct)])) _
      refine XS.iconst Xj21.here hx rfl (hb hby at_89) ?_
      exact k
    by_cases hc90 : (1 : Int32) < ct
    · skip
      have go33 : ∀ t, Steps p.tables e below (Tj21.setTop (mkF m 95 #[.val (.int pa), .val (.int pb), .val (.int pc_), .val (.int pd), .val (.int fl), .val (.int ln), .val (.int fi), .val (.int ct), .val (.ref b13), .unset, .unset] [(.ref b13)])) t → Steps p.tables e below (s₁.setTop (entryFrame m #[(.int pa), (.int pb), (.int pc_), (.int pd)] maxLocals)) t := by
        intro t k
        refine go32 t ?_
        show Steps p.tables e below (Tj21.setTop (mkF m 90 #[.val (.int pa), .val (.int pb), .val (.int pc_), .val (.int pd), .val (.int fl), .val (.int ln), .val (.int fi), .val (.int ct), .val (.ref b13), .unset, .unset] [(.int (1 : Int32)), (.int ct)])) _
        refine XS.icmpNo Xj21.here hx rfl (hb hby at_90) rfl (tlt hc90).2.2.2 ?_
        show Steps p.tables e below (Tj21.setTop (mkF m 93 #[.val (.int pa), .val (.int pb), .val (.int pc_), .val (.int pd), .val (.int fl), .val (.int ln), .val (.int fi), .val (.int ct), .val (.ref b13), .unset, .unset] [])) _
        refine XS.aload Xj21.here hx rfl (hb hby at_93) rfl rfl ?_
        exact k
      obtain ⟨cq34, kq34, q34a, q34b, q34c⟩ := isOf hZ ej21 f21_0
      obtain ⟨_, _, ⟨T34, L34, k34, n34⟩, -, X34, ⟨Lc34, hQ34, l34, y34, z34⟩, st34⟩ := Xj21.virtualBack hx (y := (⟨"com/example/pheme/pheme/core/Ring", "add", "()I"⟩ : MethodName)) (z := (⟨"com/example/pheme/pheme/core/Ring", "add", "()I"⟩ : MethodName)) hown (mvT hZ (hw _ (List.mem_of_getElem? (i := 25) rfl))) (mvT hZ (hw _ (List.mem_of_getElem? (i := 26) rfl))) (notFace_of_selects (args := #[]) (mvT hZ (hw _ (List.mem_of_getElem? (i := 28) rfl)))) (mvT hZ (hw _ (List.mem_of_getElem? (i := 28) rfl))) (mvT hZ (hw _ (List.mem_of_getElem? (i := 27) rfl))) (by decide) (backOf (W := 0) (rm5 l Z a0 hw [] b13 fi ln (0 : Int32) (own_inc ct 0 (0 : Int32)) hj21 n0 Zj21 f21_0 g_b13 f21_1 f21_2 f21_3 f21_4 (own_ne0 hln)) hZ (hw _ (List.mem_of_getElem? (i := 29) rfl)) (hw _ (List.mem_of_getElem? (i := 7) rfl)) (by decide) (by decide)) q34a q34c (g := (mkF m 95 #[.val (.int pa), .val (.int pb), .val (.int pc_), .val (.int pd), .val (.int fl), .val (.int ln), .val (.int fi), .val (.int ct), .val (.ref b13), .unset, .unset] [(.ref b13)])) rfl (by rw [hml]; rfl) (Steps.refl _) (argsL := []) (rest := []) (lenOf pd_0_2 rfl) rfl (by show 2 * 0 + _ ≤ _; exact Nat.le_of_eq rfl) (hb hby at_95) (fun _ _ => ⟨rfl, ej21, (by decide : 1 + 0 ≤ _), (by decide : 4 + 0 ≤ _)⟩)
      dsimp only [Pt.U, Pt.locs, Pt.cells, Pt.slots] at X34 l34 y34 z34 st34 hQ34
      subst l34 y34 z34
      obtain ⟨rfl, N34q, K34, E34b, F34_0, F34_1, F34_2, F34_3⟩ := hQ34
      have Z34 : n0 ≤ T34.heap.size := Nat.le_trans Zj21 K34.1
      have N34 := Fr.app Nj21 N34q
      have go35 : ∀ t, Steps p.tables e below (T34.setTop (mkF m 98 #[.val (.int pa), .val (.int pb), .val (.int pc_), .val (.int pd), .val (.int fl), .val (.int ln), .val (.int fi), .val (.int ct), .val (.ref b13), .unset, .unset] [(.int (((0 : Int32) + (own_inc ct 0 (0 : Int32))) % ln))])) t → Steps p.tables e below (s₁.setTop (entryFrame m #[(.int pa), (.int pb), (.int pc_), (.int pd)] maxLocals)) t := fun t k => go33 t (st34.trans k)
      have go37 : ∀ t, Steps p.tables e below (T34.setTop (mkF m 99 #[.val (.int pa), .val (.int pb), .val (.int pc_), .val (.int pd), .val (.int fl), .val (.int ln), .val (.int fi), .val (.int ct), .val (.ref b13), .unset, .unset] [])) t → Steps p.tables e below (s₁.setTop (entryFrame m #[(.int pa), (.int pb), (.int pc_), (.int pd)] maxLocals)) t := by
        intro t k
        refine go35 t ?_
        show Steps p.tables e below (T34.setTop (mkF m 98 #[.val (.int pa), .val (.int pb), .val (.int pc_), .val (.int pd), .val (.int fl), .val (.int ln), .val (.int fi), .val (.int ct), .val (.ref b13), .unset, .unset] [(.int (((0 : Int32) + (own_inc ct 0 (0 : Int32))) % ln))])) _
        refine XS.pop X34.here hx rfl (hb hby at_98) rfl rfl ?_
        exact k
      have fc36 : Fld Z T34.heap b13 "com/example/pheme/pheme/core/Ring" "count" "I" (.int (own_inc ct 1 (own_inc ct 0 (0 : Int32)))) := by rw [own_inc, if_pos hc90]; exact F34_3
      exact ⟨T34, T34.heap, _, X34, rfl, N34, Z34, E34b, F34_0, F34_1, F34_2, fc36, go37⟩
    · skip
      have go39 : ∀ t, Steps p.tables e below (Tj21.setTop (mkF m 99 #[.val (.int pa), .val (.int pb), .val (.int pc_), .val (.int pd), .val (.int fl), .val (.int ln), .val (.int fi), .val (.int ct), .val (.ref b13), .unset, .unset] [])) t → Steps p.tables e below (s₁.setTop (entryFrame m #[(.int pa), (.int pb), (.int pc_), (.int pd)] maxLocals)) t := by
        intro t k
        refine go32 t ?_
        show Steps p.tables e below (Tj21.setTop (mkF m 90 #[.val (.int pa), .val (.int pb), .val (.int pc_), .val (.int pd), .val (.int fl), .val (.int ln), .val (.int fi), .val (.int ct), .val (.ref b13), .unset, .unset] [(.int (1 : Int32)), (.int ct)])) _
        refine XS.icmpYes Xj21.here hx rfl (pc0 := 90) (pc' := 99) rfl (hb hby at_90) rfl (flt hc90).2.2.2 (by decide) (by decide) ?_
        exact k
      have fc38 : Fld Z hj21 b13 "com/example/pheme/pheme/core/Ring" "count" "I" (.int (own_inc ct 1 (own_inc ct 0 (0 : Int32)))) := by rw [own_inc, if_neg hc90]; exact f21_4
      exact ⟨Tj21, hj21, _, Xj21, ej21, Nj21, Zj21, f21_0, f21_1, f21_2, f21_3, fc38, go39⟩
  obtain ⟨Tj41, hj41, Lj41, Xj41, ej41, Nj41, Zj41, f41_0, f41_1, f41_2, f41_3, f41_4, go50⟩ : ∃ (Tj41 : State) (hj41 : Heap) (Lj41 : List Loc) , Stand p l e room_1 s m #[(.int pa), (.int pb), (.int pc_), (.int pd)] below meth c Tj41 Lj41 1 4 ∧ Tj41.heap = hj41 ∧ Fr n0 Lj41 ∧ n0 ≤ hj41.size ∧ Exa Z hj41 b13 "com/example/pheme/pheme/core/Ring" ∧ Fld Z hj41 b13 "com/example/pheme/pheme/core/Ring" "firstLength" "I" (.int fi) ∧ Fld Z hj41 b13 "com/example/pheme/pheme/core/Ring" "length" "I" (.int ln) ∧ Fld Z hj41 b13 "com/example/pheme/pheme/core/Ring" "oldest" "I" (.int (0 : Int32)) ∧ Fld Z hj41 b13 "com/example/pheme/pheme/core/Ring" "count" "I" (.int (own_inc ct 2 (own_inc ct 1 (own_inc ct 0 (0 : Int32))))) ∧ (∀ t, Steps p.tables e below (Tj41.setTop (mkF m 111 #[.val (.int pa), .val (.int pb), .val (.int pc_), .val (.int pd), .val (.int fl), .val (.int ln), .val (.int fi), .val (.int ct), .val (.ref b13), .unset, .unset] [])) t → Steps p.tables e below (s₁.setTop (entryFrame m #[(.int pa), (.int pb), (.int pc_), (.int pd)] maxLocals)) t) := by
    have go42 : ∀ t, Steps p.tables e below (Tj31.setTop (mkF m 102 #[.val (.int pa), .val (.int pb), .val (.int pc_), .val (.int pd), .val (.int fl), .val (.int ln), .val (.int fi), .val (.int ct), .val (.ref b13), .unset, .unset] [(.int (2 : Int32)), (.int ct)])) t → Steps p.tables e below (s₁.setTop (entryFrame m #[(.int pa), (.int pb), (.int pc_), (.int pd)] maxLocals)) t := by
      intro t k
      refine go40 t ?_
      show Steps p.tables e below (Tj31.setTop (mkF m 99 #[.val (.int pa), .val (.int pb), .val (.int pc_), .val (.int pd), .val (.int fl), .val (.int ln), .val (.int fi), .val (.int ct), .val (.ref b13), .unset, .unset] [])) _
      refine XS.iload Xj31.here hx rfl (hb hby at_99) rfl ?_
      show Steps p.tables e below (Tj31.setTop (mkF m 101 #[.val (.int pa), .val (.int pb), .val (.int pc_), .val (.int pd), .val (.int fl), .val (.int ln), .val (.int fi), .val (.int ct), .val (.ref b13), .unset, .unset] [(.int ct)])) _
      refine XS.iconst Xj31.here hx rfl (hb hby at_101) ?_
      exact k
    by_cases hc102 : (2 : Int32) < ct
    · skip
      have go43 : ∀ t, Steps p.tables e below (Tj31.setTop (mkF m 107 #[.val (.int pa), .val (.int pb), .val (.int pc_), .val (.int pd), .val (.int fl), .val (.int ln), .val (.int fi), .val (.int ct), .val (.ref b13), .unset, .unset] [(.ref b13)])) t → Steps p.tables e below (s₁.setTop (entryFrame m #[(.int pa), (.int pb), (.int pc_), (.int pd)] maxLocals)) t := by
        intro t k
        refine go42 t ?_
        show Steps p.tables e below (Tj31.setTop (mkF m 102 #[.val (.int pa), .val (.int pb), .val (.int pc_), .val (.int pd), .val (.int fl), .val (.int ln), .val (.int fi), .val (.int ct), .val (.ref b13), .unset, .unset] [(.int (2 : Int32)), (.int ct)])) _
        refine XS.icmpNo Xj31.here hx rfl (hb hby at_102) rfl (tlt hc102).2.2.2 ?_
        show Steps p.tables e below (Tj31.setTop (mkF m 105 #[.val (.int pa), .val (.int pb), .val (.int pc_), .val (.int pd), .val (.int fl), .val (.int ln), .val (.int fi), .val (.int ct), .val (.ref b13), .unset, .unset] [])) _
        refine XS.aload Xj31.here hx rfl (hb hby at_105) rfl rfl ?_
        exact k
      obtain ⟨cq44, kq44, q44a, q44b, q44c⟩ := isOf hZ ej31 f31_0
      obtain ⟨_, _, ⟨T44, L44, k44, n44⟩, -, X44, ⟨Lc44, hQ44, l44, y44, z44⟩, st44⟩ := Xj31.virtualBack hx (y := (⟨"com/example/pheme/pheme/core/Ring", "add", "()I"⟩ : MethodName)) (z := (⟨"com/example/pheme/pheme/core/Ring", "add", "()I"⟩ : MethodName)) hown (mvT hZ (hw _ (List.mem_of_getElem? (i := 25) rfl))) (mvT hZ (hw _ (List.mem_of_getElem? (i := 26) rfl))) (notFace_of_selects (args := #[]) (mvT hZ (hw _ (List.mem_of_getElem? (i := 28) rfl)))) (mvT hZ (hw _ (List.mem_of_getElem? (i := 28) rfl))) (mvT hZ (hw _ (List.mem_of_getElem? (i := 27) rfl))) (by decide) (backOf (W := 0) (rm5 l Z a0 hw [] b13 fi ln (0 : Int32) (own_inc ct 1 (own_inc ct 0 (0 : Int32))) hj31 n0 Zj31 f31_0 g_b13 f31_1 f31_2 f31_3 f31_4 (own_ne0 hln)) hZ (hw _ (List.mem_of_getElem? (i := 29) rfl)) (hw _ (List.mem_of_getElem? (i := 7) rfl)) (by decide) (by decide)) q44a q44c (g := (mkF m 107 #[.val (.int pa), .val (.int pb), .val (.int pc_), .val (.int pd), .val (.int fl), .val (.int ln), .val (.int fi), .val (.int ct), .val (.ref b13), .unset, .unset] [(.ref b13)])) rfl (by rw [hml]; rfl) (Steps.refl _) (argsL := []) (rest := []) (lenOf pd_0_2 rfl) rfl (by show 2 * 0 + _ ≤ _; exact Nat.le_of_eq rfl) (hb hby at_107) (fun _ _ => ⟨rfl, ej31, (by decide : 1 + 0 ≤ _), (by decide : 4 + 0 ≤ _)⟩)
      dsimp only [Pt.U, Pt.locs, Pt.cells, Pt.slots] at X44 l44 y44 z44 st44 hQ44
      subst l44 y44 z44
      obtain ⟨rfl, N44q, K44, E44b, F44_0, F44_1, F44_2, F44_3⟩ := hQ44
      have Z44 : n0 ≤ T44.heap.size := Nat.le_trans Zj31 K44.1
      have N44 := Fr.app Nj31 N44q
      have go45 : ∀ t, Steps p.tables e below (T44.setTop (mkF m 110 #[.val (.int pa), .val (.int pb), .val (.int pc_), .val (.int pd), .val (.int fl), .val (.int ln), .val (.int fi), .val (.int ct), .val (.ref b13), .unset, .unset] [(.int (((0 : Int32) + (own_inc ct 1 (own_inc ct 0 (0 : Int32)))) % ln))])) t → Steps p.tables e below (s₁.setTop (entryFrame m #[(.int pa), (.int pb), (.int pc_), (.int pd)] maxLocals)) t := fun t k => go43 t (st44.trans k)
      have go47 : ∀ t, Steps p.tables e below (T44.setTop (mkF m 111 #[.val (.int pa), .val (.int pb), .val (.int pc_), .val (.int pd), .val (.int fl), .val (.int ln), .val (.int fi), .val (.int ct), .val (.ref b13), .unset, .unset] [])) t → Steps p.tables e below (s₁.setTop (entryFrame m #[(.int pa), (.int pb), (.int pc_), (.int pd)] maxLocals)) t := by
        intro t k
        refine go45 t ?_
        show Steps p.tables e below (T44.setTop (mkF m 110 #[.val (.int pa), .val (.int pb), .val (.int pc_), .val (.int pd), .val (.int fl), .val (.int ln), .val (.int fi), .val (.int ct), .val (.ref b13), .unset, .unset] [(.int (((0 : Int32) + (own_inc ct 1 (own_inc ct 0 (0 : Int32)))) % ln))])) _
        refine XS.pop X44.here hx rfl (hb hby at_110) rfl rfl ?_
        exact k
      have fc46 : Fld Z T44.heap b13 "com/example/pheme/pheme/core/Ring" "count" "I" (.int (own_inc ct 2 (own_inc ct 1 (own_inc ct 0 (0 : Int32))))) := by rw [own_inc, if_pos hc102]; exact F44_3
      exact ⟨T44, T44.heap, _, X44, rfl, N44, Z44, E44b, F44_0, F44_1, F44_2, fc46, go47⟩
    · skip
      have go49 : ∀ t, Steps p.tables e below (Tj31.setTop (mkF m 111 #[.val (.int pa), .val (.int pb), .val (.int pc_), .val (.int pd), .val (.int fl), .val (.int ln), .val (.int fi), .val (.int ct), .val (.ref b13), .unset, .unset] [])) t → Steps p.tables e below (s₁.setTop (entryFrame m #[(.int pa), (.int pb), (.int pc_), (.int pd)] maxLocals)) t := by
        intro t k
        refine go42 t ?_
        show Steps p.tables e below (Tj31.setTop (mkF m 102 #[.val (.int pa), .val (.int pb), .val (.int pc_), .val (.int pd), .val (.int fl), .val (.int ln), .val (.int fi), .val (.int ct), .val (.ref b13), .unset, .unset] [(.int (2 : Int32)), (.int ct)])) _
        refine XS.icmpYes Xj31.here hx rfl (pc0 := 102) (pc' := 111) rfl (hb hby at_102) rfl (flt hc102).2.2.2 (by decide) (by decide) ?_
        exact k
      have fc48 : Fld Z hj31 b13 "com/example/pheme/pheme/core/Ring" "count" "I" (.int (own_inc ct 2 (own_inc ct 1 (own_inc ct 0 (0 : Int32))))) := by rw [own_inc, if_neg hc102]; exact f31_4
      exact ⟨Tj31, hj31, _, Xj31, ej31, Nj31, Zj31, f31_0, f31_1, f31_2, f31_3, fc48, go49⟩
  rw [own_cnt ct hct] at f41_4
  have go51 : ∀ t, Steps p.tables e below (Tj41.setTop (mkF m 113 #[.val (.int pa), .val (.int pb), .val (.int pc_), .val (.int pd), .val (.int fl), .val (.int ln), .val (.int fi), .val (.int ct), .val (.ref b13), .unset, .unset] [(.ref b13)])) t → Steps p.tables e below (s₁.setTop (entryFrame m #[(.int pa), (.int pb), (.int pc_), (.int pd)] maxLocals)) t := by
    intro t k
    refine go50 t ?_
    show Steps p.tables e below (Tj41.setTop (mkF m 111 #[.val (.int pa), .val (.int pb), .val (.int pc_), .val (.int pd), .val (.int fl), .val (.int ln), .val (.int fi), .val (.int ct), .val (.ref b13), .unset, .unset] [])) _
    refine XS.aload Xj41.here hx rfl (hb hby at_111) rfl rfl ?_
    exact k
  obtain ⟨cq52, kq52, q52a, q52b, q52c⟩ := isOf hZ ej41 f41_0
  obtain ⟨_, _, ⟨T52, L52, k52, n52⟩, -, X52, ⟨Lc52, hQ52, l52, y52, z52⟩, st52⟩ := Xj41.virtualBack hx (y := (⟨"com/example/pheme/pheme/core/Ring", "lengthToKeep", "()I"⟩ : MethodName)) (z := (⟨"com/example/pheme/pheme/core/Ring", "lengthToKeep", "()I"⟩ : MethodName)) hown (mvT hZ (hw _ (List.mem_of_getElem? (i := 37) rfl))) (mvT hZ (hw _ (List.mem_of_getElem? (i := 38) rfl))) (notFace_of_selects (args := #[]) (mvT hZ (hw _ (List.mem_of_getElem? (i := 40) rfl)))) (mvT hZ (hw _ (List.mem_of_getElem? (i := 40) rfl))) (mvT hZ (hw _ (List.mem_of_getElem? (i := 39) rfl))) (by decide) (backOf (W := 0) (rm7 l Z a0 hw [] b13 fi ln ct hj41 n0 Zj41 f41_1 f41_2 f41_4) hZ (hw _ (List.mem_of_getElem? (i := 41) rfl)) (hw _ (List.mem_of_getElem? (i := 7) rfl)) (by decide) (by decide)) q52a q52c (g := (mkF m 113 #[.val (.int pa), .val (.int pb), .val (.int pc_), .val (.int pd), .val (.int fl), .val (.int ln), .val (.int fi), .val (.int ct), .val (.ref b13), .unset, .unset] [(.ref b13)])) rfl (by rw [hml]; rfl) (Steps.refl _) (argsL := []) (rest := []) (lenOf pd_0_2 rfl) rfl (by show 2 * 0 + _ ≤ _; exact Nat.le_of_eq rfl) (hb hby at_113) (fun _ _ => ⟨rfl, ej41, (by decide : 1 + 0 ≤ _), (by decide : 4 + 0 ≤ _)⟩)
  dsimp only [Pt.U, Pt.locs, Pt.cells, Pt.slots] at X52 l52 y52 z52 st52 hQ52
  subst l52 y52 z52
  obtain ⟨rfl, N52q, e52⟩ := hQ52
  have N52 := Fr.app Nj41 N52q
  have go53 : ∀ t, Steps p.tables e below (T52.setTop (mkF m 116 #[.val (.int pa), .val (.int pb), .val (.int pc_), .val (.int pd), .val (.int fl), .val (.int ln), .val (.int fi), .val (.int ct), .val (.ref b13), .unset, .unset] [(.int (own_keep ct ln fi))])) t → Steps p.tables e below (s₁.setTop (entryFrame m #[(.int pa), (.int pb), (.int pc_), (.int pd)] maxLocals)) t := fun t k => go51 t (st52.trans k)
  have go54 : ∀ t, Steps p.tables e below (T52.setTop (mkF m 118 #[.val (.int pa), .val (.int pb), .val (.int pc_), .val (.int pd), .val (.int fl), .val (.int ln), .val (.int fi), .val (.int ct), .val (.ref b13), .val (.int (own_keep ct ln fi)), .unset] [])) t → Steps p.tables e below (s₁.setTop (entryFrame m #[(.int pa), (.int pb), (.int pc_), (.int pd)] maxLocals)) t := by
    intro t k
    refine go53 t ?_
    show Steps p.tables e below (T52.setTop (mkF m 116 #[.val (.int pa), .val (.int pb), .val (.int pc_), .val (.int pd), .val (.int fl), .val (.int ln), .val (.int fi), .val (.int ct), .val (.ref b13), .unset, .unset] [(.int (own_keep ct ln fi))])) _
    refine XS.istore X52.here hx rfl (hb hby at_116) rfl (l' := #[.val (.int pa), .val (.int pb), .val (.int pc_), .val (.int pd), .val (.int fl), .val (.int ln), .val (.int fi), .val (.int ct), .val (.ref b13), .val (.int (own_keep ct ln fi)), .unset]) rfl ?_
    exact k
  obtain ⟨ex, hp56, go55⟩ : ∃ (ex : Int32), (ex = own_keep ct ln fi) ∧ (∀ t, Steps p.tables e below (T52.setTop (mkF m 156 #[.val (.int pa), .val (.int pb), .val (.int pc_), .val (.int pd), .val (.int fl), .val (.int ln), .val (.int fi), .val (.int ct), .val (.ref b13), .val (.int (own_keep ct ln fi)), .val (.int ex)] [])) t → Steps p.tables e below (s₁.setTop (entryFrame m #[(.int pa), (.int pb), (.int pc_), (.int pd)] maxLocals)) t) := by
    by_cases hc122 : fi < ln
    · skip
      by_cases hc140 : (0 : Int32) < (lcmpW (((4 : Int64) * (ct.toInt64)) + (4 : Int64)) (ln.toInt64))
      · skip
        refine ⟨ln, (if_neg (fun u => (own_four ct ln hct hln).mp hc140 u.1)).symm, fun t k => go54 t ?_⟩
        show Steps p.tables e below (T52.setTop (mkF m 118 #[.val (.int pa), .val (.int pb), .val (.int pc_), .val (.int pd), .val (.int fl), .val (.int ln), .val (.int fi), .val (.int ct), .val (.ref b13), .val (.int (own_keep ct ln fi)), .unset] [])) _
        refine XS.iload X52.here hx rfl (hb hby at_118) rfl ?_
        show Steps p.tables e below (T52.setTop (mkF m 120 #[.val (.int pa), .val (.int pb), .val (.int pc_), .val (.int pd), .val (.int fl), .val (.int ln), .val (.int fi), .val (.int ct), .val (.ref b13), .val (.int (own_keep ct ln fi)), .unset] [(.int ln)])) _
        refine XS.iload X52.here hx rfl (hb hby at_120) rfl ?_
        show Steps p.tables e below (T52.setTop (mkF m 122 #[.val (.int pa), .val (.int pb), .val (.int pc_), .val (.int pd), .val (.int fl), .val (.int ln), .val (.int fi), .val (.int ct), .val (.ref b13), .val (.int (own_keep ct ln fi)), .unset] [(.int fi), (.int ln)])) _
        refine XS.icmpNo X52.here hx rfl (hb hby at_122) rfl (tlt hc122).2.2.2 ?_
        show Steps p.tables e below (T52.setTop (mkF m 125 #[.val (.int pa), .val (.int pb), .val (.int pc_), .val (.int pd), .val (.int fl), .val (.int ln), .val (.int fi), .val (.int ct), .val (.ref b13), .val (.int (own_keep ct ln fi)), .unset] [])) _
        refine X52.ldc2Long hx hown (mvT hZ (hw _ (List.mem_of_getElem? (i := 55) rfl))) (g := (mkF m 125 #[.val (.int pa), .val (.int pb), .val (.int pc_), .val (.int pd), .val (.int fl), .val (.int ln), .val (.int fi), .val (.int ct), .val (.ref b13), .val (.int (own_keep ct ln fi)), .unset] [])) rfl (hb hby at_125) _ ?_
        show Steps p.tables e below (T52.setTop (mkF m 128 #[.val (.int pa), .val (.int pb), .val (.int pc_), .val (.int pd), .val (.int fl), .val (.int ln), .val (.int fi), .val (.int ct), .val (.ref b13), .val (.int (own_keep ct ln fi)), .unset] [(.long (4 : Int64))])) _
        refine XS.iload X52.here hx rfl (hb hby at_128) rfl ?_
        show Steps p.tables e below (T52.setTop (mkF m 130 #[.val (.int pa), .val (.int pb), .val (.int pc_), .val (.int pd), .val (.int fl), .val (.int ln), .val (.int fi), .val (.int ct), .val (.ref b13), .val (.int (own_keep ct ln fi)), .unset] [(.int ct), (.long (4 : Int64))])) _
        refine XS.i2l X52.here hx rfl (hb hby at_130) rfl ?_
        show Steps p.tables e below (T52.setTop (mkF m 131 #[.val (.int pa), .val (.int pb), .val (.int pc_), .val (.int pd), .val (.int fl), .val (.int ln), .val (.int fi), .val (.int ct), .val (.ref b13), .val (.int (own_keep ct ln fi)), .unset] [(.long (ct.toInt64)), (.long (4 : Int64))])) _
        refine XS.lmul X52.here hx rfl (hb hby at_131) rfl ?_
        show Steps p.tables e below (T52.setTop (mkF m 132 #[.val (.int pa), .val (.int pb), .val (.int pc_), .val (.int pd), .val (.int fl), .val (.int ln), .val (.int fi), .val (.int ct), .val (.ref b13), .val (.int (own_keep ct ln fi)), .unset] [(.long ((4 : Int64) * (ct.toInt64)))])) _
        refine X52.ldc2Long hx hown (mvT hZ (hw _ (List.mem_of_getElem? (i := 55) rfl))) (g := (mkF m 132 #[.val (.int pa), .val (.int pb), .val (.int pc_), .val (.int pd), .val (.int fl), .val (.int ln), .val (.int fi), .val (.int ct), .val (.ref b13), .val (.int (own_keep ct ln fi)), .unset] [(.long ((4 : Int64) * (ct.toInt64)))])) rfl (hb hby at_132) _ ?_
        show Steps p.tables e below (T52.setTop (mkF m 135 #[.val (.int pa), .val (.int pb), .val (.int pc_), .val (.int pd), .val (.int fl), .val (.int ln), .val (.int fi), .val (.int ct), .val (.ref b13), .val (.int (own_keep ct ln fi)), .unset] [(.long (4 : Int64)), (.long ((4 : Int64) * (ct.toInt64)))])) _
        refine XS.ladd X52.here hx rfl (hb hby at_135) rfl ?_
        show Steps p.tables e below (T52.setTop (mkF m 136 #[.val (.int pa), .val (.int pb), .val (.int pc_), .val (.int pd), .val (.int fl), .val (.int ln), .val (.int fi), .val (.int ct), .val (.ref b13), .val (.int (own_keep ct ln fi)), .unset] [(.long (((4 : Int64) * (ct.toInt64)) + (4 : Int64)))])) _
        refine XS.iload X52.here hx rfl (hb hby at_136) rfl ?_
        show Steps p.tables e below (T52.setTop (mkF m 138 #[.val (.int pa), .val (.int pb), .val (.int pc_), .val (.int pd), .val (.int fl), .val (.int ln), .val (.int fi), .val (.int ct), .val (.ref b13), .val (.int (own_keep ct ln fi)), .unset] [(.int ln), (.long (((4 : Int64) * (ct.toInt64)) + (4 : Int64)))])) _
        refine XS.i2l X52.here hx rfl (hb hby at_138) rfl ?_
        show Steps p.tables e below (T52.setTop (mkF m 139 #[.val (.int pa), .val (.int pb), .val (.int pc_), .val (.int pd), .val (.int fl), .val (.int ln), .val (.int fi), .val (.int ct), .val (.ref b13), .val (.int (own_keep ct ln fi)), .unset] [(.long (ln.toInt64)), (.long (((4 : Int64) * (ct.toInt64)) + (4 : Int64)))])) _
        refine XS.lcmp X52.here hx rfl (hb hby at_139) rfl ?_
        show Steps p.tables e below (T52.setTop (mkF m 140 #[.val (.int pa), .val (.int pb), .val (.int pc_), .val (.int pd), .val (.int fl), .val (.int ln), .val (.int fi), .val (.int ct), .val (.ref b13), .val (.int (own_keep ct ln fi)), .unset] [(.int (lcmpW (((4 : Int64) * (ct.toInt64)) + (4 : Int64)) (ln.toInt64)))])) _
        refine XS.ifYes X52.here hx rfl (pc0 := 140) (pc' := 152) rfl (hb hby at_140) rfl ((if0 _ _).trans (tlt hc140).2.2.1) (by decide) (by decide) ?_
        show Steps p.tables e below (T52.setTop (mkF m 152 #[.val (.int pa), .val (.int pb), .val (.int pc_), .val (.int pd), .val (.int fl), .val (.int ln), .val (.int fi), .val (.int ct), .val (.ref b13), .val (.int (own_keep ct ln fi)), .unset] [])) _
        refine XS.iload X52.here hx rfl (hb hby at_152) rfl ?_
        show Steps p.tables e below (T52.setTop (mkF m 154 #[.val (.int pa), .val (.int pb), .val (.int pc_), .val (.int pd), .val (.int fl), .val (.int ln), .val (.int fi), .val (.int ct), .val (.ref b13), .val (.int (own_keep ct ln fi)), .unset] [(.int ln)])) _
        refine XS.istore X52.here hx rfl (hb hby at_154) rfl (l' := #[.val (.int pa), .val (.int pb), .val (.int pc_), .val (.int pd), .val (.int fl), .val (.int ln), .val (.int fi), .val (.int ct), .val (.ref b13), .val (.int (own_keep ct ln fi)), .val (.int ln)]) rfl ?_
        exact k
      · skip
        refine ⟨(ln >>> ((1 : Int32) &&& 31)), ((own_half ln hln).trans (if_pos ⟨Classical.byContradiction fun u => hc140 ((own_four ct ln hct hln).mpr u), hc122⟩).symm), fun t k => go54 t ?_⟩
        show Steps p.tables e below (T52.setTop (mkF m 118 #[.val (.int pa), .val (.int pb), .val (.int pc_), .val (.int pd), .val (.int fl), .val (.int ln), .val (.int fi), .val (.int ct), .val (.ref b13), .val (.int (own_keep ct ln fi)), .unset] [])) _
        refine XS.iload X52.here hx rfl (hb hby at_118) rfl ?_
        show Steps p.tables e below (T52.setTop (mkF m 120 #[.val (.int pa), .val (.int pb), .val (.int pc_), .val (.int pd), .val (.int fl), .val (.int ln), .val (.int fi), .val (.int ct), .val (.ref b13), .val (.int (own_keep ct ln fi)), .unset] [(.int ln)])) _
        refine XS.iload X52.here hx rfl (hb hby at_120) rfl ?_
        show Steps p.tables e below (T52.setTop (mkF m 122 #[.val (.int pa), .val (.int pb), .val (.int pc_), .val (.int pd), .val (.int fl), .val (.int ln), .val (.int fi), .val (.int ct), .val (.ref b13), .val (.int (own_keep ct ln fi)), .unset] [(.int fi), (.int ln)])) _
        refine XS.icmpNo X52.here hx rfl (hb hby at_122) rfl (tlt hc122).2.2.2 ?_
        show Steps p.tables e below (T52.setTop (mkF m 125 #[.val (.int pa), .val (.int pb), .val (.int pc_), .val (.int pd), .val (.int fl), .val (.int ln), .val (.int fi), .val (.int ct), .val (.ref b13), .val (.int (own_keep ct ln fi)), .unset] [])) _
        refine X52.ldc2Long hx hown (mvT hZ (hw _ (List.mem_of_getElem? (i := 55) rfl))) (g := (mkF m 125 #[.val (.int pa), .val (.int pb), .val (.int pc_), .val (.int pd), .val (.int fl), .val (.int ln), .val (.int fi), .val (.int ct), .val (.ref b13), .val (.int (own_keep ct ln fi)), .unset] [])) rfl (hb hby at_125) _ ?_
        show Steps p.tables e below (T52.setTop (mkF m 128 #[.val (.int pa), .val (.int pb), .val (.int pc_), .val (.int pd), .val (.int fl), .val (.int ln), .val (.int fi), .val (.int ct), .val (.ref b13), .val (.int (own_keep ct ln fi)), .unset] [(.long (4 : Int64))])) _
        refine XS.iload X52.here hx rfl (hb hby at_128) rfl ?_
        show Steps p.tables e below (T52.setTop (mkF m 130 #[.val (.int pa), .val (.int pb), .val (.int pc_), .val (.int pd), .val (.int fl), .val (.int ln), .val (.int fi), .val (.int ct), .val (.ref b13), .val (.int (own_keep ct ln fi)), .unset] [(.int ct), (.long (4 : Int64))])) _
        refine XS.i2l X52.here hx rfl (hb hby at_130) rfl ?_
        show Steps p.tables e below (T52.setTop (mkF m 131 #[.val (.int pa), .val (.int pb), .val (.int pc_), .val (.int pd), .val (.int fl), .val (.int ln), .val (.int fi), .val (.int ct), .val (.ref b13), .val (.int (own_keep ct ln fi)), .unset] [(.long (ct.toInt64)), (.long (4 : Int64))])) _
        refine XS.lmul X52.here hx rfl (hb hby at_131) rfl ?_
        show Steps p.tables e below (T52.setTop (mkF m 132 #[.val (.int pa), .val (.int pb), .val (.int pc_), .val (.int pd), .val (.int fl), .val (.int ln), .val (.int fi), .val (.int ct), .val (.ref b13), .val (.int (own_keep ct ln fi)), .unset] [(.long ((4 : Int64) * (ct.toInt64)))])) _
        refine X52.ldc2Long hx hown (mvT hZ (hw _ (List.mem_of_getElem? (i := 55) rfl))) (g := (mkF m 132 #[.val (.int pa), .val (.int pb), .val (.int pc_), .val (.int pd), .val (.int fl), .val (.int ln), .val (.int fi), .val (.int ct), .val (.ref b13), .val (.int (own_keep ct ln fi)), .unset] [(.long ((4 : Int64) * (ct.toInt64)))])) rfl (hb hby at_132) _ ?_
        show Steps p.tables e below (T52.setTop (mkF m 135 #[.val (.int pa), .val (.int pb), .val (.int pc_), .val (.int pd), .val (.int fl), .val (.int ln), .val (.int fi), .val (.int ct), .val (.ref b13), .val (.int (own_keep ct ln fi)), .unset] [(.long (4 : Int64)), (.long ((4 : Int64) * (ct.toInt64)))])) _
        refine XS.ladd X52.here hx rfl (hb hby at_135) rfl ?_
        show Steps p.tables e below (T52.setTop (mkF m 136 #[.val (.int pa), .val (.int pb), .val (.int pc_), .val (.int pd), .val (.int fl), .val (.int ln), .val (.int fi), .val (.int ct), .val (.ref b13), .val (.int (own_keep ct ln fi)), .unset] [(.long (((4 : Int64) * (ct.toInt64)) + (4 : Int64)))])) _
        refine XS.iload X52.here hx rfl (hb hby at_136) rfl ?_
        show Steps p.tables e below (T52.setTop (mkF m 138 #[.val (.int pa), .val (.int pb), .val (.int pc_), .val (.int pd), .val (.int fl), .val (.int ln), .val (.int fi), .val (.int ct), .val (.ref b13), .val (.int (own_keep ct ln fi)), .unset] [(.int ln), (.long (((4 : Int64) * (ct.toInt64)) + (4 : Int64)))])) _
        refine XS.i2l X52.here hx rfl (hb hby at_138) rfl ?_
        show Steps p.tables e below (T52.setTop (mkF m 139 #[.val (.int pa), .val (.int pb), .val (.int pc_), .val (.int pd), .val (.int fl), .val (.int ln), .val (.int fi), .val (.int ct), .val (.ref b13), .val (.int (own_keep ct ln fi)), .unset] [(.long (ln.toInt64)), (.long (((4 : Int64) * (ct.toInt64)) + (4 : Int64)))])) _
        refine XS.lcmp X52.here hx rfl (hb hby at_139) rfl ?_
        show Steps p.tables e below (T52.setTop (mkF m 140 #[.val (.int pa), .val (.int pb), .val (.int pc_), .val (.int pd), .val (.int fl), .val (.int ln), .val (.int fi), .val (.int ct), .val (.ref b13), .val (.int (own_keep ct ln fi)), .unset] [(.int (lcmpW (((4 : Int64) * (ct.toInt64)) + (4 : Int64)) (ln.toInt64)))])) _
        refine XS.ifNo X52.here hx rfl (hb hby at_140) rfl ((if0 _ _).trans (flt hc140).2.2.1) ?_
        show Steps p.tables e below (T52.setTop (mkF m 143 #[.val (.int pa), .val (.int pb), .val (.int pc_), .val (.int pd), .val (.int fl), .val (.int ln), .val (.int fi), .val (.int ct), .val (.ref b13), .val (.int (own_keep ct ln fi)), .unset] [])) _
        refine XS.iload X52.here hx rfl (hb hby at_143) rfl ?_
        show Steps p.tables e below (T52.setTop (mkF m 145 #[.val (.int pa), .val (.int pb), .val (.int pc_), .val (.int pd), .val (.int fl), .val (.int ln), .val (.int fi), .val (.int ct), .val (.ref b13), .val (.int (own_keep ct ln fi)), .unset] [(.int ln)])) _
        refine XS.iconst X52.here hx rfl (hb hby at_145) ?_
        show Steps p.tables e below (T52.setTop (mkF m 146 #[.val (.int pa), .val (.int pb), .val (.int pc_), .val (.int pd), .val (.int fl), .val (.int ln), .val (.int fi), .val (.int ct), .val (.ref b13), .val (.int (own_keep ct ln fi)), .unset] [(.int (1 : Int32)), (.int ln)])) _
        refine XS.ishr X52.here hx rfl (hb hby at_146) rfl ?_
        show Steps p.tables e below (T52.setTop (mkF m 147 #[.val (.int pa), .val (.int pb), .val (.int pc_), .val (.int pd), .val (.int fl), .val (.int ln), .val (.int fi), .val (.int ct), .val (.ref b13), .val (.int (own_keep ct ln fi)), .unset] [(.int (ln >>> ((1 : Int32) &&& 31)))])) _
        refine XS.istore X52.here hx rfl (hb hby at_147) rfl (l' := #[.val (.int pa), .val (.int pb), .val (.int pc_), .val (.int pd), .val (.int fl), .val (.int ln), .val (.int fi), .val (.int ct), .val (.ref b13), .val (.int (own_keep ct ln fi)), .val (.int (ln >>> ((1 : Int32) &&& 31)))]) rfl ?_
        show Steps p.tables e below (T52.setTop (mkF m 149 #[.val (.int pa), .val (.int pb), .val (.int pc_), .val (.int pd), .val (.int fl), .val (.int ln), .val (.int fi), .val (.int ct), .val (.ref b13), .val (.int (own_keep ct ln fi)), .val (.int (ln >>> ((1 : Int32) &&& 31)))] [])) _
        refine XS.goto X52.here hx rfl (pc0 := 149) (pc' := 156) rfl (hb hby at_149) (by decide) (by decide) ?_
        exact k
    · skip
      refine ⟨ln, (if_neg (fun u => hc122 u.2)).symm, fun t k => go54 t ?_⟩
      show Steps p.tables e below (T52.setTop (mkF m 118 #[.val (.int pa), .val (.int pb), .val (.int pc_), .val (.int pd), .val (.int fl), .val (.int ln), .val (.int fi), .val (.int ct), .val (.ref b13), .val (.int (own_keep ct ln fi)), .unset] [])) _
      refine XS.iload X52.here hx rfl (hb hby at_118) rfl ?_
      show Steps p.tables e below (T52.setTop (mkF m 120 #[.val (.int pa), .val (.int pb), .val (.int pc_), .val (.int pd), .val (.int fl), .val (.int ln), .val (.int fi), .val (.int ct), .val (.ref b13), .val (.int (own_keep ct ln fi)), .unset] [(.int ln)])) _
      refine XS.iload X52.here hx rfl (hb hby at_120) rfl ?_
      show Steps p.tables e below (T52.setTop (mkF m 122 #[.val (.int pa), .val (.int pb), .val (.int pc_), .val (.int pd), .val (.int fl), .val (.int ln), .val (.int fi), .val (.int ct), .val (.ref b13), .val (.int (own_keep ct ln fi)), .unset] [(.int fi), (.int ln)])) _
      refine XS.icmpYes X52.here hx rfl (pc0 := 122) (pc' := 152) rfl (hb hby at_122) rfl (flt hc122).2.2.2 (by decide) (by decide) ?_
      show Steps p.tables e below (T52.setTop (mkF m 152 #[.val (.int pa), .val (.int pb), .val (.int pc_), .val (.int pd), .val (.int fl), .val (.int ln), .val (.int fi), .val (.int ct), .val (.ref b13), .val (.int (own_keep ct ln fi)), .unset] [])) _
      refine XS.iload X52.here hx rfl (hb hby at_152) rfl ?_
      show Steps p.tables e below (T52.setTop (mkF m 154 #[.val (.int pa), .val (.int pb), .val (.int pc_), .val (.int pd), .val (.int fl), .val (.int ln), .val (.int fi), .val (.int ct), .val (.ref b13), .val (.int (own_keep ct ln fi)), .unset] [(.int ln)])) _
      refine XS.istore X52.here hx rfl (hb hby at_154) rfl (l' := #[.val (.int pa), .val (.int pb), .val (.int pc_), .val (.int pd), .val (.int fl), .val (.int ln), .val (.int fi), .val (.int ct), .val (.ref b13), .val (.int (own_keep ct ln fi)), .val (.int ln)]) rfl ?_
      exact k
  have go57 : ∀ t, Steps p.tables e below (T52.setTop (mkF m 165 #[.val (.int pa), .val (.int pb), .val (.int pc_), .val (.int pd), .val (.int fl), .val (.int ln), .val (.int fi), .val (.int ct), .val (.ref b13), .val (.int (own_keep ct ln fi)), .val (.int ex)] [(.ref b13)])) t → Steps p.tables e below (s₁.setTop (entryFrame m #[(.int pa), (.int pb), (.int pc_), (.int pd)] maxLocals)) t := by
    intro t k
    refine go55 t ?_
    show Steps p.tables e below (T52.setTop (mkF m 156 #[.val (.int pa), .val (.int pb), .val (.int pc_), .val (.int pd), .val (.int fl), .val (.int ln), .val (.int fi), .val (.int ct), .val (.ref b13), .val (.int (own_keep ct ln fi)), .val (.int ex)] [])) _
    refine XS.iload X52.here hx rfl (hb hby at_156) rfl ?_
    show Steps p.tables e below (T52.setTop (mkF m 158 #[.val (.int pa), .val (.int pb), .val (.int pc_), .val (.int pd), .val (.int fl), .val (.int ln), .val (.int fi), .val (.int ct), .val (.ref b13), .val (.int (own_keep ct ln fi)), .val (.int ex)] [(.int (own_keep ct ln fi))])) _
    refine XS.iload X52.here hx rfl (hb hby at_158) rfl ?_
    show Steps p.tables e below (T52.setTop (mkF m 160 #[.val (.int pa), .val (.int pb), .val (.int pc_), .val (.int pd), .val (.int fl), .val (.int ln), .val (.int fi), .val (.int ct), .val (.ref b13), .val (.int (own_keep ct ln fi)), .val (.int ex)] [(.int ex), (.int (own_keep ct ln fi))])) _
    refine XS.icmpNo X52.here hx rfl (hb hby at_160) rfl (teq hp56.symm).2 ?_
    show Steps p.tables e below (T52.setTop (mkF m 163 #[.val (.int pa), .val (.int pb), .val (.int pc_), .val (.int pd), .val (.int fl), .val (.int ln), .val (.int fi), .val (.int ct), .val (.ref b13), .val (.int (own_keep ct ln fi)), .val (.int ex)] [])) _
    refine XS.aload X52.here hx rfl (hb hby at_163) rfl rfl ?_
    exact k
  obtain ⟨cq58, kq58, q58a, q58b, q58c⟩ := isOf hZ e52 f41_0
  obtain ⟨_, _, ⟨T58, L58, k58, n58⟩, -, X58, ⟨Lc58, hQ58, l58, y58, z58⟩, st58⟩ := X52.virtualBack hx (y := (⟨"com/example/pheme/pheme/core/Ring", "length", "()I"⟩ : MethodName)) (z := (⟨"com/example/pheme/pheme/core/Ring", "length", "()I"⟩ : MethodName)) hown (mvT hZ (hw _ (List.mem_of_getElem? (i := 42) rfl))) (mvT hZ (hw _ (List.mem_of_getElem? (i := 43) rfl))) (notFace_of_selects (args := #[]) (mvT hZ (hw _ (List.mem_of_getElem? (i := 45) rfl)))) (mvT hZ (hw _ (List.mem_of_getElem? (i := 45) rfl))) (mvT hZ (hw _ (List.mem_of_getElem? (i := 44) rfl))) (by decide) (backOf (W := 0) (rm8 l Z a0 hw [] b13 ln hj41 n0 Zj41 f41_2) hZ (hw _ (List.mem_of_getElem? (i := 46) rfl)) (hw _ (List.mem_of_getElem? (i := 7) rfl)) (by decide) (by decide)) q58a q58c (g := (mkF m 165 #[.val (.int pa), .val (.int pb), .val (.int pc_), .val (.int pd), .val (.int fl), .val (.int ln), .val (.int fi), .val (.int ct), .val (.ref b13), .val (.int (own_keep ct ln fi)), .val (.int ex)] [(.ref b13)])) rfl (by rw [hml]; rfl) (Steps.refl _) (argsL := []) (rest := []) (lenOf pd_0_2 rfl) rfl (by show 2 * 0 + _ ≤ _; exact Nat.le_of_eq rfl) (hb hby at_165) (fun _ _ => ⟨rfl, e52, (by decide : 1 + 0 ≤ _), (by decide : 4 + 0 ≤ _)⟩)
  dsimp only [Pt.U, Pt.locs, Pt.cells, Pt.slots] at X58 l58 y58 z58 st58 hQ58
  subst l58 y58 z58
  obtain ⟨rfl, N58q, e58⟩ := hQ58
  have N58 := Fr.app N52 N58q
  have go59 : ∀ t, Steps p.tables e below (T58.setTop (mkF m 168 #[.val (.int pa), .val (.int pb), .val (.int pc_), .val (.int pd), .val (.int fl), .val (.int ln), .val (.int fi), .val (.int ct), .val (.ref b13), .val (.int (own_keep ct ln fi)), .val (.int ex)] [(.int ln)])) t → Steps p.tables e below (s₁.setTop (entryFrame m #[(.int pa), (.int pb), (.int pc_), (.int pd)] maxLocals)) t := fun t k => go57 t (st58.trans k)
  have go60 : ∀ t, Steps p.tables e below (T58.setTop (mkF m 175 #[.val (.int pa), .val (.int pb), .val (.int pc_), .val (.int pd), .val (.int fl), .val (.int ln), .val (.int fi), .val (.int ct), .val (.ref b13), .val (.int (own_keep ct ln fi)), .val (.int ex)] [(.ref b13)])) t → Steps p.tables e below (s₁.setTop (entryFrame m #[(.int pa), (.int pb), (.int pc_), (.int pd)] maxLocals)) t := by
    intro t k
    refine go59 t ?_
    show Steps p.tables e below (T58.setTop (mkF m 168 #[.val (.int pa), .val (.int pb), .val (.int pc_), .val (.int pd), .val (.int fl), .val (.int ln), .val (.int fi), .val (.int ct), .val (.ref b13), .val (.int (own_keep ct ln fi)), .val (.int ex)] [(.int ln)])) _
    refine XS.iload X58.here hx rfl (hb hby at_168) rfl ?_
    show Steps p.tables e below (T58.setTop (mkF m 170 #[.val (.int pa), .val (.int pb), .val (.int pc_), .val (.int pd), .val (.int fl), .val (.int ln), .val (.int fi), .val (.int ct), .val (.ref b13), .val (.int (own_keep ct ln fi)), .val (.int ex)] [(.int ln), (.int ln)])) _
    refine XS.icmpNo X58.here hx rfl (hb hby at_170) rfl (teq rfl).2 ?_
    show Steps p.tables e below (T58.setTop (mkF m 173 #[.val (.int pa), .val (.int pb), .val (.int pc_), .val (.int pd), .val (.int fl), .val (.int ln), .val (.int fi), .val (.int ct), .val (.ref b13), .val (.int (own_keep ct ln fi)), .val (.int ex)] [])) _
    refine XS.aload X58.here hx rfl (hb hby at_173) rfl rfl ?_
    exact k
  obtain ⟨cq61, kq61, q61a, q61b, q61c⟩ := isOf hZ e58 f41_0
  obtain ⟨_, _, ⟨T61, L61, k61, n61⟩, -, X61, ⟨Lc61, hQ61, l61, y61, z61⟩, st61⟩ := X58.virtualBack hx (y := (⟨"com/example/pheme/pheme/core/Ring", "size", "()I"⟩ : MethodName)) (z := (⟨"com/example/pheme/pheme/core/Ring", "size", "()I"⟩ : MethodName)) hown (mvT hZ (hw _ (List.mem_of_getElem? (i := 47) rfl))) (mvT hZ (hw _ (List.mem_of_getElem? (i := 48) rfl))) (notFace_of_selects (args := #[]) (mvT hZ (hw _ (List.mem_of_getElem? (i := 50) rfl)))) (mvT hZ (hw _ (List.mem_of_getElem? (i := 50) rfl))) (mvT hZ (hw _ (List.mem_of_getElem? (i := 49) rfl))) (by decide) (backOf (W := 0) (rm9 l Z a0 hw [] b13 ct hj41 n0 Zj41 f41_4) hZ (hw _ (List.mem_of_getElem? (i := 51) rfl)) (hw _ (List.mem_of_getElem? (i := 7) rfl)) (by decide) (by decide)) q61a q61c (g := (mkF m 175 #[.val (.int pa), .val (.int pb), .val (.int pc_), .val (.int pd), .val (.int fl), .val (.int ln), .val (.int fi), .val (.int ct), .val (.ref b13), .val (.int (own_keep ct ln fi)), .val (.int ex)] [(.ref b13)])) rfl (by rw [hml]; rfl) (Steps.refl _) (argsL := []) (rest := []) (lenOf pd_0_2 rfl) rfl (by show 2 * 0 + _ ≤ _; exact Nat.le_of_eq rfl) (hb hby at_175) (fun _ _ => ⟨rfl, e58, (by decide : 1 + 0 ≤ _), (by decide : 4 + 0 ≤ _)⟩)
  dsimp only [Pt.U, Pt.locs, Pt.cells, Pt.slots] at X61 l61 y61 z61 st61 hQ61
  subst l61 y61 z61
  obtain ⟨rfl, N61q, e61⟩ := hQ61
  have N61 := Fr.app N58 N61q
  have go62 : ∀ t, Steps p.tables e below (T61.setTop (mkF m 178 #[.val (.int pa), .val (.int pb), .val (.int pc_), .val (.int pd), .val (.int fl), .val (.int ln), .val (.int fi), .val (.int ct), .val (.ref b13), .val (.int (own_keep ct ln fi)), .val (.int ex)] [(.int ct)])) t → Steps p.tables e below (s₁.setTop (entryFrame m #[(.int pa), (.int pb), (.int pc_), (.int pd)] maxLocals)) t := fun t k => go60 t (st61.trans k)
  have go63 : ∀ t, Steps p.tables e below (T61.setTop (mkF m 188 #[.val (.int pa), .val (.int pb), .val (.int pc_), .val (.int pd), .val (.int fl), .val (.int ln), .val (.int fi), .val (.int ct), .val (.ref b13), .val (.int (own_keep ct ln fi)), .val (.int ex)] [(.int (1 : Int32))])) t → Steps p.tables e below (s₁.setTop (entryFrame m #[(.int pa), (.int pb), (.int pc_), (.int pd)] maxLocals)) t := by
    intro t k
    refine go62 t ?_
    show Steps p.tables e below (T61.setTop (mkF m 178 #[.val (.int pa), .val (.int pb), .val (.int pc_), .val (.int pd), .val (.int fl), .val (.int ln), .val (.int fi), .val (.int ct), .val (.ref b13), .val (.int (own_keep ct ln fi)), .val (.int ex)] [(.int ct)])) _
    refine XS.iload X61.here hx rfl (hb hby at_178) rfl ?_
    show Steps p.tables e below (T61.setTop (mkF m 180 #[.val (.int pa), .val (.int pb), .val (.int pc_), .val (.int pd), .val (.int fl), .val (.int ln), .val (.int fi), .val (.int ct), .val (.ref b13), .val (.int (own_keep ct ln fi)), .val (.int ex)] [(.int ct), (.int ct)])) _
    refine XS.icmpNo X61.here hx rfl (hb hby at_180) rfl (teq rfl).2 ?_
    show Steps p.tables e below (T61.setTop (mkF m 183 #[.val (.int pa), .val (.int pb), .val (.int pc_), .val (.int pd), .val (.int fl), .val (.int ln), .val (.int fi), .val (.int ct), .val (.ref b13), .val (.int (own_keep ct ln fi)), .val (.int ex)] [])) _
    refine XS.iconst X61.here hx rfl (hb hby at_183) ?_
    show Steps p.tables e below (T61.setTop (mkF m 184 #[.val (.int pa), .val (.int pb), .val (.int pc_), .val (.int pd), .val (.int fl), .val (.int ln), .val (.int fi), .val (.int ct), .val (.ref b13), .val (.int (own_keep ct ln fi)), .val (.int ex)] [(.int (1 : Int32))])) _
    refine XS.goto X61.here hx rfl (pc0 := 184) (pc' := 188) rfl (hb hby at_184) (by decide) (by decide) ?_
    exact k
  obtain ⟨fs, hr, hrun, hended, hW, hsame⟩ := X61.leave (v := some (.int (1 : Int32))) (fun h => by rw [Bd.returns] at h; cases h)
  refine ⟨_, _, go63 _ ?_, hrun, hended, _, _, rfl, ?_, ⟨_, rfl⟩, hW, hsame.mono (by decide) (by decide)⟩
  · show Steps p.tables e below (T61.setTop (mkF m 188 #[.val (.int pa), .val (.int pb), .val (.int pc_), .val (.int pd), .val (.int fl), .val (.int ln), .val (.int fi), .val (.int ct), .val (.ref b13), .val (.int (own_keep ct ln fi)), .val (.int ex)] [(.int (1 : Int32))])) _
    exact retN X61 hx (t := .boolean) Bd.returns (by simp) (hb hby at_188) hr
  · show Q0 Z pa pb pc_ pd h0 n0 _ T61.heap _
    rw [e61]
    exact ⟨rfl, N61⟩
set_option maxRecDepth 65536 in
set_option maxHeartbeats 40000000 in
theorem comes_1 {Post : Tables → Env → Array Value → State → Outcome → State → Prop} (hpost : ∀ tb e args s v u, (limb_1_1.after args s (.returned v) u = true ∧ limb_1_2.after args s (.returned v) u = true ∧ True) → FrameEnd s (.returned v) u (Jvm.fieldLocs frame_1_writes args s ++ Jvm.arrayLocs frame_1_arrays args s ++ Jvm.staticLocs frame_1_statics s) 16 128 → Post tb e args s (.returned v) u) :
    ArmFor flags0 classFile x code maxLocals ret World_1 tables_1 room_1 Calls_1 rest_1 Pre_1 Post := by
  intro l hfl _ _ p e ha hc hk s m args below hf hA hF happ hP
  obtain ⟨hcalls, hrest, hpre⟩ := hP
  obtain ⟨-, -, -, hnamed, -, -, -, hat⟩ := (Spec.applies_iff hf).mp happ
  obtain ⟨hg, hn⟩ := and_e (Cond.before_iff.mp (show (Jvm.Cond.and given_1 narrow_1).before args s = true from hpre))
  obtain ⟨gc, r0⟩ := and_e hg
  obtain ⟨g0, r1⟩ := and_e r0
  obtain ⟨g1, r2⟩ := and_e r1
  obtain ⟨g2, r3⟩ := and_e r2
  obtain ⟨w0, w1, w2, w3, rfl⟩ : ∃ w0 w1 w2 w3 : Value, args = #[w0, w1, w2, w3] := by
    have hs : args.size = 4 := by simpa [Cond.value, given_1] using gc
    obtain ⟨L⟩ := args
    match L, hs with
    | [w0, w1, w2, w3], _ => exact ⟨w0, w1, w2, w3, rfl⟩
  have hw := fun d (hd : d ∈ tables_1) => atoms_spec (ws := Jvm.Cond.code x code maxLocals ret :: tables_1) hat d (List.mem_cons_of_mem _ hd)
  obtain ⟨i0, ei0⟩ := is_v g0
  obtain rfl : w0 = (.int i0) := Option.some.inj ei0
  obtain ⟨i1, ei1⟩ := is_v g1
  obtain rfl : w1 = (.int i1) := Option.some.inj ei1
  obtain ⟨i2, ei2⟩ := is_v g2
  obtain rfl : w2 = (.int i2) := Option.some.inj ei2
  obtain ⟨i3, ei3⟩ := is_v r3
  obtain rfl : w3 = (.int i3) := Option.some.inj ei3
  obtain ⟨n, o, h1, h2, h3, _, L, rfl, ⟨rfl, N⟩, hq⟩ := rm0 l s _ hw tables_1 i0 i1 i2 i3 s.heap s.heap.size (Nat.le_refl _) p e ha hc hk s m _ below hf ((Spec.applies_iff_loose hf).mp happ).1 ⟨rfl, State.Warmed39.refl s, rfl⟩ trivial
  refine ⟨n, _, h1, h2, h3, hpost _ _ _ _ _ _ ⟨Cond.after_iff.mpr rfl, Cond.after_iff.mpr (eq_i res_at (Term.int_eval (1)) rfl), trivial⟩ ⟨hq.1, hq.2.1, (hq.2.2.sift fun y hy => Or.inr (N y hy)).mono (by decide) (by decide)⟩⟩
theorem main_1_1 : Claimed_1_1 := comes_1 fun _ _ _ _ _ _ h hF => ⟨h.1, hF⟩
theorem main_1_2 : Claimed_1_2 := comes_1 fun _ _ _ _ _ _ h hF => ⟨h.2.1, hF⟩
end Jvm.Pilot.@@N@@
namespace Jvm.Pilot.@@N@@
open Jvm Jvm.ClassFile Sem Op Lib Jvm.Free Jvm.Stand Jvm.Pilot.@@N@@.Jvm.D
/-! MADE BY PROGRAM (witnessworld.py) out of the Statement's table words and the real class files: 8 classes; the members and pool entries that the words name. The judged class is class 1, her method 1. -/
namespace start1
open Jvm.ClassFile
def u (s : String) : CpInfo := .utf8 (stringToUtf16 s)
/-- a pool by its gaps: so many unusable entries, then the entry; so many at the end -/
def gap : Nat → List CpInfo → List CpInfo
  | 0, r => r
  | n + 1, r => .unusable :: gap n r
def poolList (es : List (Nat × CpInfo)) (last : Nat) : List CpInfo := es.foldr (fun e r => gap e.1 (e.2 :: r)) (gap last [])
def pool (es : List (Nat × CpInfo)) (last : Nat) : Array CpInfo := ⟨poolList es last⟩
def fileOf (pool : Array CpInfo) (this : Nat) (attrs : Array Attribute := #[]) (ms : Array MethodInfo := #[]) (fl : Nat := 33) (sup : Nat := 0) (ifs : Array Nat := #[]) (fds : Array FieldInfo := #[]) : ClassFile where
  minorVersion := 0
  majorVersion := 65
  constantPool := pool
  accessFlags := fl
  thisClass := this
  superClass := sup
  interfaces := ifs
  fields := fds
  methods := ms
  attributes := attrs
def plain (name : String) (sup : Option ClassId) : Class where
  name := name
  kind := .ordinary
  loader := none
  accessFlags := 33
  super := sup
  interfaces := #[]
  cf := none
  fields := #[]
  methods := #[]
  instanceTypes := #[]
  staticTypes := #[]
  resolved := #[]
  callSites := []
  init := .initialized
  statics := none
  mirror := none

def pool0 : Array CpInfo := pool [(5, u "<init>"), (0, u "()V"), (1, .class_ 10), (1, u "java/lang/Object")] 113

def k0c0 : Code := { maxStack := 0, maxLocals := 1, code := object_method_1_code, exceptionTable := #[], attributes := #[] }
def k0m0 : Method := { name := "<init>", desc := "()V", sig := { parameters := [], returnType := none }, accessFlags := 1, code := some k0c0 }
/-- java/lang/Object -/
def k0 : Class := { plain "java/lang/Object" none with
  accessFlags := 33
  interfaces := #[]
  cf := some (fileOf pool0 8 #[] #[{ accessFlags := 1, nameIndex := 5, descriptorIndex := 6, attributes := #[] }] 33 0 #[] #[])
  fields := #[]
  methods := #[k0m0]
  instanceTypes := #[]
  staticTypes := #[]
  resolved := Array.replicate 124 none
  statics := none }

def pool1 : Array CpInfo := pool [(2, .class_ 4), (1, u "java/lang/Object"), (0, u "<init>"), (0, u "()V"), (0, .integer 2147483647), (0, .methodref 9 10), (0, .class_ 11), (0, .nameAndType 12 13), (0, u "java/lang/Math"), (0, u "max"), (0, u "(II)I"), (0, .methodref 9 15), (0, .nameAndType 16 13), (0, u "min"), (0, .class_ 18), (0, u "com/example/pheme/pheme/core/Ring"), (0, .methodref 17 20), (0, .nameAndType 5 21), (0, u "(I)V"), (0, .methodref 17 23), (0, .nameAndType 24 21), (0, u "resized"), (0, .methodref 17 26), (0, .nameAndType 27 28), (0, u "add"), (0, u "()I"), (0, .methodref 17 30), (0, .nameAndType 31 28), (0, u "lengthToKeep"), (0, .long 4), (1, .methodref 17 35), (0, .nameAndType 36 28), (0, u "length"), (0, .methodref 17 38), (0, .nameAndType 39 28), (0, u "size"), (0, .class_ 41), (0, u "com/example/pheme/pheme/core/RingLengthToKeepPinLaw"), (2, u "law"), (0, u "(IIII)Z")] 3

def k1m0 : Method := { name := "<init>", desc := "()V", sig := { parameters := [], returnType := none }, accessFlags := 1, code := none }
def k1c1 : Code := { maxStack := 4, maxLocals := 11, code := code, exceptionTable := #[], attributes := #[] }
def k1m1 : Method := { name := "law", desc := "(IIII)Z", sig := { parameters := [.int, .int, .int, .int], returnType := some .boolean }, accessFlags := 9, code := some k1c1 }
/-- com/example/pheme/pheme/core/RingLengthToKeepPinLaw -/
def k1 : Class := { plain "com/example/pheme/pheme/core/RingLengthToKeepPinLaw" (some 0) with
  accessFlags := 49
  interfaces := #[]
  cf := some (fileOf pool1 40 #[] #[{ accessFlags := 1, nameIndex := 5, descriptorIndex := 6, attributes := #[] }, { accessFlags := 9, nameIndex := 44, descriptorIndex := 45, attributes := #[] }] 49 2 #[] #[])
  fields := #[]
  methods := #[k1m0, k1m1]
  instanceTypes := #[]
  staticTypes := #[]
  resolved := Array.replicate 49 none
  statics := none }

def pool2 : Array CpInfo := pool [(1, .class_ 2), (0, u "java/lang/Math"), (1, .class_ 6), (1, u "java/lang/Object"), (0, u "<init>"), (0, u "()V"), (89, .class_ 100), (1, u "java/lang/Math$RandomNumberGeneratorHolder"), (71, u "negativeZeroFloatBits"), (0, u "J"), (2, u "negativeZeroDoubleBits"), (21, u "max"), (2, u "min"), (43, u "$assertionsDisabled"), (0, u "Z"), (88, u "(II)I"), (2, u "twoToTheDoubleScaleDown"), (0, u "D"), (4, u "twoToTheDoubleScaleUp"), (9, u "E"), (3, u "PI"), (2, u "TAU"), (2, u "DEGREES_TO_RADIANS"), (0, u "RADIANS_TO_DEGREES")] 94

def k2m0 : Method := { name := "<init>", desc := "()V", sig := { parameters := [], returnType := none }, accessFlags := 2, code := none }
def k2c1 : Code := { maxStack := 2, maxLocals := 2, code := jdk_29_method_65_code, exceptionTable := #[], attributes := #[] }
def k2m1 : Method := { name := "max", desc := "(II)I", sig := { parameters := [.int, .int], returnType := some .int }, accessFlags := 9, code := some k2c1 }
def k2c2 : Code := { maxStack := 2, maxLocals := 2, code := jdk_29_method_69_code, exceptionTable := #[], attributes := #[] }
def k2m2 : Method := { name := "min", desc := "(II)I", sig := { parameters := [.int, .int], returnType := some .int }, accessFlags := 9, code := some k2c2 }
/-- java/lang/Math -/
def k2 : Class := { plain "java/lang/Math" (some 0) with
  accessFlags := 49
  interfaces := #[]
  cf := some (fileOf pool2 1 #[.nestMembers #[98]] #[{ accessFlags := 2, nameIndex := 7, descriptorIndex := 8, attributes := #[] }, { accessFlags := 9, nameIndex := 198, descriptorIndex := 335, attributes := #[] }, { accessFlags := 9, nameIndex := 201, descriptorIndex := 335, attributes := #[] }] 49 4 #[] #[{ accessFlags := 25, nameIndex := 354, descriptorIndex := 339, attributes := #[] }, { accessFlags := 25, nameIndex := 358, descriptorIndex := 339, attributes := #[] }, { accessFlags := 25, nameIndex := 361, descriptorIndex := 339, attributes := #[] }, { accessFlags := 26, nameIndex := 364, descriptorIndex := 339, attributes := #[] }, { accessFlags := 26, nameIndex := 365, descriptorIndex := 339, attributes := #[] }, { accessFlags := 26, nameIndex := 172, descriptorIndex := 173, attributes := #[] }, { accessFlags := 26, nameIndex := 176, descriptorIndex := 173, attributes := #[] }, { accessFlags := 8, nameIndex := 344, descriptorIndex := 339, attributes := #[] }, { accessFlags := 8, nameIndex := 338, descriptorIndex := 339, attributes := #[] }, { accessFlags := 4120, nameIndex := 245, descriptorIndex := 246, attributes := #[] }])
  fields := #[{ name := "E", type := .double, accessFlags := 25, slot := 0, constantValue := 0 }, { name := "PI", type := .double, accessFlags := 25, slot := 1, constantValue := 0 }, { name := "TAU", type := .double, accessFlags := 25, slot := 2, constantValue := 0 }, { name := "DEGREES_TO_RADIANS", type := .double, accessFlags := 26, slot := 3, constantValue := 0 }, { name := "RADIANS_TO_DEGREES", type := .double, accessFlags := 26, slot := 4, constantValue := 0 }, { name := "negativeZeroFloatBits", type := .long, accessFlags := 26, slot := 5, constantValue := 0 }, { name := "negativeZeroDoubleBits", type := .long, accessFlags := 26, slot := 6, constantValue := 0 }, { name := "twoToTheDoubleScaleUp", type := .double, accessFlags := 8, slot := 7, constantValue := 0 }, { name := "twoToTheDoubleScaleDown", type := .double, accessFlags := 8, slot := 8, constantValue := 0 }, { name := "$assertionsDisabled", type := .boolean, accessFlags := 4120, slot := 9, constantValue := 0 }]
  methods := #[k2m0, k2m1, k2m2]
  instanceTypes := #[]
  staticTypes := #[.double, .double, .double, .double, .double, .long, .long, .double, .double, .boolean]
  resolved := Array.replicate 460 none
  statics := none }

def pool3 : Array CpInfo := pool [(1, .methodref 2 3), (0, .class_ 4), (0, .nameAndType 5 6), (0, u "java/lang/Object"), (0, u "<init>"), (0, u "()V"), (0, .fieldref 8 9), (0, .class_ 10), (0, .nameAndType 11 12), (0, u "com/example/pheme/pheme/core/Ring"), (0, u "firstLength"), (0, u "I"), (0, .fieldref 8 14), (0, .nameAndType 15 12), (0, u "length"), (0, .fieldref 8 17), (0, .nameAndType 18 12), (0, u "count"), (0, .fieldref 8 20), (0, .nameAndType 21 12), (0, u "oldest"), (0, .methodref 8 23), (0, .nameAndType 24 25), (0, u "place"), (0, u "(I)I"), (0, u "(I)V"), (2, u "size"), (0, u "()I"), (3, u "lengthToKeep"), (0, u "add"), (9, u "resized")] 2

def k3c0 : Code := { maxStack := 2, maxLocals := 2, code := prog_42_method_1_code, exceptionTable := #[], attributes := #[] }
def k3m0 : Method := { name := "<init>", desc := "(I)V", sig := { parameters := [.int], returnType := none }, accessFlags := 0, code := some k3c0 }
def k3c1 : Code := { maxStack := 1, maxLocals := 1, code := prog_42_method_2_code, exceptionTable := #[], attributes := #[] }
def k3m1 : Method := { name := "size", desc := "()I", sig := { parameters := [], returnType := some .int }, accessFlags := 0, code := some k3c1 }
def k3c2 : Code := { maxStack := 1, maxLocals := 1, code := prog_42_method_4_code, exceptionTable := #[], attributes := #[] }
def k3m2 : Method := { name := "length", desc := "()I", sig := { parameters := [], returnType := some .int }, accessFlags := 0, code := some k3c2 }
def k3c3 : Code := { maxStack := 2, maxLocals := 2, code := prog_42_method_5_code, exceptionTable := #[], attributes := #[] }
def k3m3 : Method := { name := "place", desc := "(I)I", sig := { parameters := [.int], returnType := some .int }, accessFlags := 0, code := some k3c3 }
def k3c4 : Code := { maxStack := 3, maxLocals := 1, code := prog_42_method_6_code, exceptionTable := #[], attributes := #[] }
def k3m4 : Method := { name := "lengthToKeep", desc := "()I", sig := { parameters := [], returnType := some .int }, accessFlags := 0, code := some k3c4 }
def k3c5 : Code := { maxStack := 3, maxLocals := 2, code := prog_42_method_7_code, exceptionTable := #[], attributes := #[] }
def k3m5 : Method := { name := "add", desc := "()I", sig := { parameters := [], returnType := some .int }, accessFlags := 0, code := some k3c5 }
def k3c6 : Code := { maxStack := 2, maxLocals := 2, code := prog_42_method_12_code, exceptionTable := #[], attributes := #[] }
def k3m6 : Method := { name := "resized", desc := "(I)V", sig := { parameters := [.int], returnType := none }, accessFlags := 0, code := some k3c6 }
/-- com/example/pheme/pheme/core/Ring -/
def k3 : Class := { plain "com/example/pheme/pheme/core/Ring" (some 0) with
  accessFlags := 48
  interfaces := #[]
  cf := some (fileOf pool3 8 #[] #[{ accessFlags := 0, nameIndex := 5, descriptorIndex := 26, attributes := #[] }, { accessFlags := 0, nameIndex := 29, descriptorIndex := 30, attributes := #[] }, { accessFlags := 0, nameIndex := 15, descriptorIndex := 30, attributes := #[] }, { accessFlags := 0, nameIndex := 24, descriptorIndex := 25, attributes := #[] }, { accessFlags := 0, nameIndex := 34, descriptorIndex := 30, attributes := #[] }, { accessFlags := 0, nameIndex := 35, descriptorIndex := 30, attributes := #[] }, { accessFlags := 0, nameIndex := 45, descriptorIndex := 26, attributes := #[] }] 48 2 #[] #[{ accessFlags := 18, nameIndex := 11, descriptorIndex := 12, attributes := #[] }, { accessFlags := 2, nameIndex := 15, descriptorIndex := 12, attributes := #[] }, { accessFlags := 2, nameIndex := 21, descriptorIndex := 12, attributes := #[] }, { accessFlags := 2, nameIndex := 18, descriptorIndex := 12, attributes := #[] }])
  fields := #[{ name := "firstLength", type := .int, accessFlags := 18, slot := 0, constantValue := 0 }, { name := "length", type := .int, accessFlags := 2, slot := 1, constantValue := 0 }, { name := "oldest", type := .int, accessFlags := 2, slot := 2, constantValue := 0 }, { name := "count", type := .int, accessFlags := 2, slot := 3, constantValue := 0 }]
  methods := #[k3m0, k3m1, k3m2, k3m3, k3m4, k3m5, k3m6]
  instanceTypes := #[.int, .int, .int, .int]
  staticTypes := #[]
  resolved := Array.replicate 48 none
  statics := none }

def pool4 : Array CpInfo := pool [(1, u "java/lang/Cloneable"), (0, .class_ 1), (0, u "java/lang/Object"), (0, .class_ 3)] 3

/-- java/lang/Cloneable -/
def k4 : Class := { plain "java/lang/Cloneable" (some 0) with
  accessFlags := 1537
  interfaces := #[]
  cf := some (fileOf pool4 2 #[] #[] 1537 4 #[] #[])
  fields := #[]
  methods := #[]
  instanceTypes := #[]
  staticTypes := #[]
  resolved := Array.replicate 8 none
  statics := none }

def pool5 : Array CpInfo := pool [(1, u "java/io/Serializable"), (0, .class_ 1), (0, u "java/lang/Object"), (0, .class_ 3)] 3

/-- java/io/Serializable -/
def k5 : Class := { plain "java/io/Serializable" (some 0) with
  accessFlags := 1537
  interfaces := #[]
  cf := some (fileOf pool5 2 #[] #[] 1537 4 #[] #[])
  fields := #[]
  methods := #[]
  instanceTypes := #[]
  staticTypes := #[]
  resolved := Array.replicate 8 none
  statics := none }

/-- the primitive byte -/
def k6 : Class := { plain "byte" none with kind := .primitive 'B', accessFlags := 0x411 }
/-- [B -/
def k7 : Class := { plain "[B" (some 0) with kind := .array 6 .byte, interfaces := #[4, 5], accessFlags := 1041 }

def heap : Heap := #[]
def classes : Array Class := #[k0, k1, k2, k3, k4, k5, k6, k7]
def interned : List (Array UInt16 × Addr) := []
def slotsUsed : Nat := 0
def theMethod : MethodId := ⟨1, 1⟩
def args0 : Array Value := #[.int 5, .int 6, .int 7, .int 8]
def aboutOver (below : List Frame) : State where
  vm := { classes := classes, interned := interned.toArray }
  heap := heap
  slotsUsed := slotsUsed
  threads := #[{ frames := .invoking theMethod args0 :: below }]
def below0 : List Frame := [.native { method := ⟨0, 0⟩, args := #[] }]
def about1 : State := aboutOver below0
def p0 : Program := .bare "" "" ""
def e0 : Env := launch0.env 0 0 0
theorem w_frames : about1.frames = Frame.invoking theMethod args0 :: below0 := rfl
set_option maxRecDepth 65536 in
theorem w_args : argsFit about1.vm theMethod args0 = true := by decide +kernel
set_option maxRecDepth 65536 in
theorem w_heap : heapFits about1 = true := by decide +kernel
set_option maxRecDepth 65536 in
theorem w_runnable : about1.curStatus? = some .runnable := by decide +kernel
set_option maxRecDepth 65536 in
theorem w_alone : about1.alone = true := by decide +kernel
set_option maxRecDepth 65536 in
theorem w_named : about1.methodNamed? x = some theMethod := by decide +kernel
set_option maxRecDepth 65536 in
theorem w_hears : about1.hears theMethod below0 = true := by decide +kernel
set_option maxRecDepth 65536 in
theorem w_ripe : about1.ripe theMethod args0 below0 = true := by decide +kernel
theorem w_running : about1.status = .running := rfl
set_option maxRecDepth 65536 in
theorem w_room : about1.hasRoom e0.platform room_1 = true :=
  launch0.hasRoom_least _ room_1 (by decide +kernel) (by decide +kernel) (by decide +kernel) (by decide +kernel) (by decide +kernel) (by decide +kernel)
theorem allAtoms_all (ts : List Jvm.Cond) (a : Array Jvm.Value) (st : Jvm.State) : (allAtoms ts).before a st = ts.all (fun c => c.before a st) := by
  induction ts with
  | nil => rfl
  | cons c t ih =>
    show (Jvm.Cond.and c (allAtoms t)).before a st = _
    rw [Jvm.Cond.before_and, ih, List.all_cons]
def words1 : List Jvm.Cond := Jvm.Cond.code x code maxLocals ret :: tables_1
/-- a 'code' word, met by the world's own term for the bytes: nothing is compared byte by byte -/
theorem code_word {y : MethodName} {bytes : ByteArray} {mx : Nat} {rt : Option FieldType} {a : Array Value} {s : State} {m : MethodId} {meth : Method} {c : Code} (h1 : s.methodNamed? y = some m) (h2 : s.vm.method? m = some meth) (h3 : meth.code = some c) (h4 : c.code = bytes)
    (h5 : (c.maxLocals == mx && c.exceptionTable.isEmpty && decide (c.maxStack ≤ mostOperands) && decide (meth.sig.returnType = rt) && !meth.locks && decide (parseMethodDescriptor y.desc = some meth.sig)) = true) : (Jvm.Cond.code y bytes mx rt).before a s = true := by
  simp only [Bool.and_eq_true, beq_iff_eq, Bool.not_eq_true', decide_eq_true_eq] at h5
  obtain ⟨⟨⟨⟨⟨g1, g2⟩, g3⟩, g4⟩, g5⟩, g6⟩ := h5
  simp [Cond.before, Cond.holds, Cond.value, h1, h2, h3, h4, g1, g2, g3, g4, g5, g6]
def isCode : Jvm.Cond → Bool
  | .code _ _ _ _ => true
  | _ => false
theorem all_split {L : List Jvm.Cond} {P : Jvm.Cond → Bool} (h1 : L.all (fun c => isCode c || P c) = true) (h2 : ∀ c ∈ L.filter isCode, P c = true) : L.all P = true := by
  refine List.all_eq_true.mpr fun c hc => ?_
  have h := List.all_eq_true.mp h1 c hc
  rcases Bool.eq_false_or_eq_true (isCode c) with hi | hi
  · exact h2 c (List.mem_filter.mpr ⟨hc, hi⟩)
  · simpa [hi] using h
set_option maxRecDepth 65536 in
theorem w_c0 : (Jvm.Cond.code x code maxLocals ret).before args0 about1 = true := code_word (m := ⟨1, 1⟩) (meth := k1m1) (c := k1c1) (by decide +kernel) rfl rfl rfl (by decide +kernel)
set_option maxRecDepth 65536 in
theorem w_c1 : (Jvm.Cond.code ({ cls := "java/lang/Math", name := "min", desc := "(II)I" } : Jvm.MethodName) jdk_29_method_69_code (2 : Nat) (Option.some Jvm.ClassFile.FieldType.int)).before args0 about1 = true := code_word (m := ⟨2, 2⟩) (meth := k2m2) (c := k2c2) (by decide +kernel) rfl rfl rfl (by decide +kernel)
set_option maxRecDepth 65536 in
theorem w_c2 : (Jvm.Cond.code ({ cls := "com/example/pheme/pheme/core/Ring", name := "<init>", desc := "(I)V" } : Jvm.MethodName) prog_42_method_1_code (2 : Nat) (Option.none : Option Jvm.ClassFile.FieldType)).before args0 about1 = true := code_word (m := ⟨3, 0⟩) (meth := k3m0) (c := k3c0) (by decide +kernel) rfl rfl rfl (by decide +kernel)
set_option maxRecDepth 65536 in
theorem w_c3 : (Jvm.Cond.code ({ cls := "java/lang/Object", name := "<init>", desc := "()V" } : Jvm.MethodName) object_method_1_code (1 : Nat) (Option.none : Option Jvm.ClassFile.FieldType)).before args0 about1 = true := code_word (m := ⟨0, 0⟩) (meth := k0m0) (c := k0c0) (by decide +kernel) rfl rfl rfl (by decide +kernel)
set_option maxRecDepth 65536 in
theorem w_c4 : (Jvm.Cond.code ({ cls := "com/example/pheme/pheme/core/Ring", name := "resized", desc := "(I)V" } : Jvm.MethodName) prog_42_method_12_code (2 : Nat) (Option.none : Option Jvm.ClassFile.FieldType)).before args0 about1 = true := code_word (m := ⟨3, 6⟩) (meth := k3m6) (c := k3c6) (by decide +kernel) rfl rfl rfl (by decide +kernel)
set_option maxRecDepth 65536 in
theorem w_c5 : (Jvm.Cond.code ({ cls := "com/example/pheme/pheme/core/Ring", name := "add", desc := "()I" } : Jvm.MethodName) prog_42_method_7_code (2 : Nat) (Option.some Jvm.ClassFile.FieldType.int)).before args0 about1 = true := code_word (m := ⟨3, 5⟩) (meth := k3m5) (c := k3c5) (by decide +kernel) rfl rfl rfl (by decide +kernel)
set_option maxRecDepth 65536 in
theorem w_c6 : (Jvm.Cond.code ({ cls := "com/example/pheme/pheme/core/Ring", name := "place", desc := "(I)I" } : Jvm.MethodName) prog_42_method_5_code (2 : Nat) (Option.some Jvm.ClassFile.FieldType.int)).before args0 about1 = true := code_word (m := ⟨3, 3⟩) (meth := k3m3) (c := k3c3) (by decide +kernel) rfl rfl rfl (by decide +kernel)
set_option maxRecDepth 65536 in
theorem w_c7 : (Jvm.Cond.code ({ cls := "com/example/pheme/pheme/core/Ring", name := "lengthToKeep", desc := "()I" } : Jvm.MethodName) prog_42_method_6_code (1 : Nat) (Option.some Jvm.ClassFile.FieldType.int)).before args0 about1 = true := code_word (m := ⟨3, 4⟩) (meth := k3m4) (c := k3c4) (by decide +kernel) rfl rfl rfl (by decide +kernel)
set_option maxRecDepth 65536 in
theorem w_c8 : (Jvm.Cond.code ({ cls := "com/example/pheme/pheme/core/Ring", name := "length", desc := "()I" } : Jvm.MethodName) prog_42_method_4_code (1 : Nat) (Option.some Jvm.ClassFile.FieldType.int)).before args0 about1 = true := code_word (m := ⟨3, 2⟩) (meth := k3m2) (c := k3c2) (by decide +kernel) rfl rfl rfl (by decide +kernel)
set_option maxRecDepth 65536 in
theorem w_c9 : (Jvm.Cond.code ({ cls := "com/example/pheme/pheme/core/Ring", name := "size", desc := "()I" } : Jvm.MethodName) prog_42_method_2_code (1 : Nat) (Option.some Jvm.ClassFile.FieldType.int)).before args0 about1 = true := code_word (m := ⟨3, 1⟩) (meth := k3m1) (c := k3c1) (by decide +kernel) rfl rfl rfl (by decide +kernel)
set_option maxRecDepth 65536 in
theorem w_c10 : (Jvm.Cond.code ({ cls := "java/lang/Math", name := "max", desc := "(II)I" } : Jvm.MethodName) jdk_29_method_65_code (2 : Nat) (Option.some Jvm.ClassFile.FieldType.int)).before args0 about1 = true := code_word (m := ⟨2, 1⟩) (meth := k2m1) (c := k2c1) (by decide +kernel) rfl rfl rfl (by decide +kernel)
def codes1 : List Jvm.Cond := [Jvm.Cond.code x code maxLocals ret, Jvm.Cond.code ({ cls := "java/lang/Math", name := "min", desc := "(II)I" } : Jvm.MethodName) jdk_29_method_69_code (2 : Nat) (Option.some Jvm.ClassFile.FieldType.int), Jvm.Cond.code ({ cls := "com/example/pheme/pheme/core/Ring", name := "<init>", desc := "(I)V" } : Jvm.MethodName) prog_42_method_1_code (2 : Nat) (Option.none : Option Jvm.ClassFile.FieldType), Jvm.Cond.code ({ cls := "java/lang/Object", name := "<init>", desc := "()V" } : Jvm.MethodName) object_method_1_code (1 : Nat) (Option.none : Option Jvm.ClassFile.FieldType), Jvm.Cond.code ({ cls := "com/example/pheme/pheme/core/Ring", name := "resized", desc := "(I)V" } : Jvm.MethodName) prog_42_method_12_code (2 : Nat) (Option.none : Option Jvm.ClassFile.FieldType), Jvm.Cond.code ({ cls := "com/example/pheme/pheme/core/Ring", name := "add", desc := "()I" } : Jvm.MethodName) prog_42_method_7_code (2 : Nat) (Option.some Jvm.ClassFile.FieldType.int), Jvm.Cond.code ({ cls := "com/example/pheme/pheme/core/Ring", name := "place", desc := "(I)I" } : Jvm.MethodName) prog_42_method_5_code (2 : Nat) (Option.some Jvm.ClassFile.FieldType.int), Jvm.Cond.code ({ cls := "com/example/pheme/pheme/core/Ring", name := "lengthToKeep", desc := "()I" } : Jvm.MethodName) prog_42_method_6_code (1 : Nat) (Option.some Jvm.ClassFile.FieldType.int), Jvm.Cond.code ({ cls := "com/example/pheme/pheme/core/Ring", name := "length", desc := "()I" } : Jvm.MethodName) prog_42_method_4_code (1 : Nat) (Option.some Jvm.ClassFile.FieldType.int), Jvm.Cond.code ({ cls := "com/example/pheme/pheme/core/Ring", name := "size", desc := "()I" } : Jvm.MethodName) prog_42_method_2_code (1 : Nat) (Option.some Jvm.ClassFile.FieldType.int), Jvm.Cond.code ({ cls := "java/lang/Math", name := "max", desc := "(II)I" } : Jvm.MethodName) jdk_29_method_65_code (2 : Nat) (Option.some Jvm.ClassFile.FieldType.int)]
set_option maxRecDepth 65536 in
theorem codes_eq : words1.filter isCode = codes1 := rfl
theorem w_codes : ∀ c ∈ words1.filter isCode, c.before args0 about1 = true := by
  rw [codes_eq]
  intro c hc
  simp only [codes1, List.mem_cons, List.not_mem_nil, or_false] at hc
  rcases hc with rfl | rfl | rfl | rfl | rfl | rfl | rfl | rfl | rfl | rfl | rfl
  · exact w_c0
  · exact w_c1
  · exact w_c2
  · exact w_c3
  · exact w_c4
  · exact w_c5
  · exact w_c6
  · exact w_c7
  · exact w_c8
  · exact w_c9
  · exact w_c10
set_option maxRecDepth 65536 in
theorem w_t1 : (words1.take 24).all (fun c => isCode c || c.before args0 about1) = true := by decide +kernel
set_option maxRecDepth 65536 in
theorem w_t2 : ((words1.drop 24).take 24).all (fun c => isCode c || c.before args0 about1) = true := by decide +kernel
set_option maxRecDepth 65536 in
theorem w_t3 : ((words1.drop 24).drop 24).all (fun c => isCode c || c.before args0 about1) = true := by decide +kernel
theorem w_tables : (allAtoms (Jvm.Cond.code x code maxLocals ret :: tables_1)).before args0 about1 = true := by
  rw [allAtoms_all]
  show words1.all (fun c => c.before args0 about1) = true
  refine all_split ?_ w_codes
  rw [← List.take_append_drop 24 words1, List.all_append, w_t1, ← List.take_append_drop 24 (words1.drop 24), List.all_append, w_t2, w_t3]
  rfl
set_option maxRecDepth 65536 in
theorem w_case : (Jvm.Cond.and given_1 narrow_1).before args0 about1 = true := by decide +kernel
theorem w_applies : (headSpec (Jvm.Cond.code x code maxLocals ret :: tables_1) room_1).applies x e0.platform about1 = true :=
  (Spec.applies_iff w_frames).mpr ⟨w_running, w_runnable, w_alone, w_named, w_hears, w_ripe, w_room, w_tables⟩
theorem atStart : AtStart classFile x code maxLocals ret World_1 tables_1 room_1 Calls_1 rest_1 Pre_1 launch0 p0 e0 about1 theMethod args0 below0 :=
  ⟨lists_1, trivial, launch0.admits_env _ _ _, launch0.least_env, fairChoices_fair.cas, fairChoices_fair.clock, w_frames, w_args, w_heap, w_applies, trivial, trivial, w_case⟩
end start1
theorem witness_1 : WitnessClaimed_1 := ⟨start1.p0, start1.e0, start1.about1, start1.theMethod, start1.args0, start1.below0, start1.atStart⟩
end Jvm.Pilot.@@N@@
