import JvmDerived
import JvmDerived.Pilot.@@N@@Statement
import JvmDerived.Pilot.@@N@@Code
set_option linter.unusedVariables false
set_option linter.unusedSimpArgs false
namespace Jvm.RoadKit
open Sem ClassFile Op Lib Jvm.Stand Jvm.Free Jvm.LawKit
section New
variable {p : Program} {l : Launch} {e : Env} {R : Room} {s : State} {m : MethodId} {args : Array Value} {below : List Frame} {meth : Method} {c : Code} {T : State} {locs : List Loc} {cells slots : Nat}
theorem retI (X : Stand p l e R s m args below meth c T locs cells slots) (hx : p.tables.exec = Jvm.exec) {pc : Nat} {Ls : Array Slot} {z : Int32} {rest : List Value} (hret : meth.sig.returnType = some .int) (hd : decode c.code pc = .ok (.ireturn, 1)) {fs : List Frame}
    (hl : ∀ (f : JFrame) (acts : List Action), f.method = m → f.locked = none → f.entered = [] → (doReturn e (T.setTop f) acts (some (.int z))).1 = T.setFrames fs) : Steps p.tables e below (T.setTop (mkF m pc Ls (.int z :: rest))) (T.setFrames fs) := by
  have hm' : T.vm.method? m = some meth := X.method'
  have hn : narrow .int (.int z) = .int z := rfl
  show Steps p.tables e below (T.setTop { method := m, pc := pc, locals := Ls, stack := _ :: rest, locked := none }) _
  jvm_step X.here [X.here.top, hx, hd, hm', hret, hn]
  first | (intro acts; rw [hl _ acts rfl rfl rfl]) | rw [hl _ _ rfl rfl rfl]
  exact Steps.refl _
end New
end Jvm.RoadKit
namespace Jvm.Pilot.@@N@@
open Jvm Jvm.ClassFile Sem Op Lib Jvm.Free Jvm.Stand Jvm.LawKit Jvm.RoadKit Bundle Jvm.Pilot.@@N@@.Jvm.D
def own_pick (k : Int32) (d f : Int64) (b : Int32) : Int64 := if k = (0 : Int32) then (0 : Int64) else if k = (1 : Int32) then d else if k = (2 : Int32) then f else (d ^^^ ((1 : Int64) <<< (b &&& 0x3f).toInt64))
def own_sf (fb fh by_ ha b h : Int64) : Int32 := if by_ = b ∧ ha = h then 1 else if fb = b ∧ fh = h then 1 else 0
theorem own_x (p a b : Int64) : (p ^^^ a = p ^^^ b) ↔ a = b := by
  constructor
  · intro h
    have h2 : p ^^^ (p ^^^ a) = p ^^^ (p ^^^ b) := by rw [h]
    simpa [← Int64.xor_assoc] using h2
  · intro h; rw [h]
theorem own_x0 (p a : Int64) : (p = p ^^^ a) ↔ a = 0 := by
  have := own_x p 0 a
  rw [Int64.xor_zero] at this
  rw [this]; exact eq_comm
theorem own_got (p q db dh eb eh : Int64) : own_sf p q (p ^^^ db) (q ^^^ dh) (p ^^^ eb) (q ^^^ eh) = if (eb = db ∧ eh = dh) ∨ (eb = 0 ∧ eh = 0) then 1 else 0 := by
  simp only [own_sf, own_x, own_x0]
  by_cases h1 : eb = db <;> by_cases h2 : eh = dh <;> by_cases h3 : eb = 0 <;> by_cases h4 : eh = 0 <;> simp_all [eq_comm]
theorem d1_0 : decode method_3_code 0 = .ok (.iload_n 0, 1) := by decide +kernel
theorem d1_1 : decode method_3_code 1 = .ok (.ifCond .ne 5, 3) := by decide +kernel
theorem d1_4 : decode method_3_code 4 = .ok (.lconst 0, 1) := by decide +kernel
theorem d1_5 : decode method_3_code 5 = .ok (.lreturn, 1) := by decide +kernel
theorem d1_6 : decode method_3_code 6 = .ok (.iload_n 0, 1) := by decide +kernel
theorem d1_7 : decode method_3_code 7 = .ok (.iconst 1, 1) := by decide +kernel
theorem d1_8 : decode method_3_code 8 = .ok (.if_icmp .ne 5, 3) := by decide +kernel
theorem d1_11 : decode method_3_code 11 = .ok (.lload_n 1, 1) := by decide +kernel
theorem d1_12 : decode method_3_code 12 = .ok (.lreturn, 1) := by decide +kernel
theorem d1_13 : decode method_3_code 13 = .ok (.iload_n 0, 1) := by decide +kernel
theorem d1_14 : decode method_3_code 14 = .ok (.iconst 2, 1) := by decide +kernel
theorem d1_15 : decode method_3_code 15 = .ok (.if_icmp .ne 5, 3) := by decide +kernel
theorem d1_18 : decode method_3_code 18 = .ok (.lload_n 3, 1) := by decide +kernel
theorem d1_19 : decode method_3_code 19 = .ok (.lreturn, 1) := by decide +kernel
theorem d1_20 : decode method_3_code 20 = .ok (.lload_n 1, 1) := by decide +kernel
theorem d1_21 : decode method_3_code 21 = .ok (.lconst 1, 1) := by decide +kernel
theorem d1_22 : decode method_3_code 22 = .ok (.iload 5, 2) := by decide +kernel
theorem d1_24 : decode method_3_code 24 = .ok (.lshl, 1) := by decide +kernel
theorem d1_25 : decode method_3_code 25 = .ok (.lxor, 1) := by decide +kernel
theorem d1_26 : decode method_3_code 26 = .ok (.lreturn, 1) := by decide +kernel
theorem pn_1 : plainName "com/example/scripbook/scripbook/file/RecordMarkStandsForPinLaw" = true := by first | (simp [plainName, overriddenIn]; done) | decide +kernel
theorem ef_1 (m : MethodId) (x0 : Int32) (x1 : Int64) (x2 : Int64) (x3 : Int32) : entryFrame m #[(.int x0), (.long x1), (.long x2), (.int x3)] 6 = mkF m 0 #[.val (.int x0), .val (.long x1), .second, .val (.long x2), .second, .val (.int x3)] [] := by first | (simp [entryFrame, mkF, argsToLocals, Value.category]; done) | rfl
def Q1 (Z : State) (p1 : Int32) (q2 : Int64) (q3 : Int64) (p4 : Int32) (h0 : Heap) (n0 : Nat) (v : Option Value) (h : Heap) (L : List Loc) : Prop := v = some (.long (own_pick p1 q2 q3 p4)) ∧ Fr n0 L ∧ h = h0
set_option maxRecDepth 65536 in
set_option maxHeartbeats 40000000 in
theorem rm1 (l : Launch) (Z : State) (a0 : Array Value) (hw : ∀ d ∈ tables_1, d.before a0 Z = true) (ws : List Jvm.Cond) (p1 : Int32) (q2 : Int64) (q3 : Int64) (p4 : Int32) (h0 : Heap) (n0 : Nat) (Z0 : n0 ≤ h0.size) :
    MetFree l (⟨"com/example/scripbook/scripbook/file/RecordMarkStandsForPinLaw", "pick", "(IJJI)J"⟩ : MethodName) (head1 (Jvm.Cond.code (⟨"com/example/scripbook/scripbook/file/RecordMarkStandsForPinLaw", "pick", "(IJJI)J"⟩ : MethodName) method_3_code 6 (some .long) :: ws) ({ frames := 0, cells := 0, slots := 0, locals := 0 } : Room)) (fun a U => a = #[(.int p1), (.long q2), (.long q3), (.int p4)] ∧ Z.Warmed39 U.vm ∧ U.heap = h0) (fun _ _ _ _ _ => True) (fun _ U o U' => ∃ v L, o = .returned v ∧ Q1 Z p1 q2 q3 p4 h0 n0 v U'.heap L ∧ FrameEnd U o U' L ({ frames := 0, cells := 0, slots := 0, locals := 0 } : Room).cells ({ frames := 0, cells := 0, slots := 0, locals := 0 } : Room).slots) := by
  refine MetFree.of_bodySF (plainFor_of_name pn_1) hisR ?_
  intro p e s m args below meth c s₁ Bd hml0 hP hK
  obtain ⟨rfl, hZ, hh⟩ := hP
  have hx := Bd.exec
  have hby := Bd.bytes
  have hml : c.maxLocals = 6 := hml0
  have hown : s.vm.findClass "com/example/scripbook/scripbook/file/RecordMarkStandsForPinLaw" = some m.cls := findClass_of_methodNamed Bd.named
  have hnm := (name_of_methodNamed Bd.named Bd.method).1
  have X0 : Stand p l e ({ frames := 0, cells := 0, slots := 0, locals := 0 } : Room) s m #[(.int p1), (.long q2), (.long q3), (.int p4)] below meth c s₁ [] 0 0 := Stand.of_body Bd
  have e0 : s₁.heap = h0 := by rw [← hh, Bd.state]; rfl
  have N0 := Fr.nil n0
  have go0 : ∀ t, Steps p.tables e below (s₁.setTop (mkF m 0 #[.val (.int p1), .val (.long q2), .second, .val (.long q3), .second, .val (.int p4)] [])) t → Steps p.tables e below (s₁.setTop (entryFrame m #[(.int p1), (.long q2), (.long q3), (.int p4)] 6)) t := fun t k => castTop (ef_1 m p1 q2 q3 p4) k
  have go1 : ∀ t, Steps p.tables e below (s₁.setTop (mkF m 1 #[.val (.int p1), .val (.long q2), .second, .val (.long q3), .second, .val (.int p4)] [(.int p1)])) t → Steps p.tables e below (s₁.setTop (entryFrame m #[(.int p1), (.long q2), (.long q3), (.int p4)] 6)) t := by
    intro t k
    refine go0 t ?_
    show Steps p.tables e below (s₁.setTop (mkF m 0 #[.val (.int p1), .val (.long q2), .second, .val (.long q3), .second, .val (.int p4)] [])) _
    refine XS.iloadN X0.here hx rfl (hb hby d1_0) rfl ?_
    exact k
  by_cases hc1 : p1 = (0 : Int32)
  · skip
    have go2 : ∀ t, Steps p.tables e below (s₁.setTop (mkF m 5 #[.val (.int p1), .val (.long q2), .second, .val (.long q3), .second, .val (.int p4)] [(.long (0 : Int64))])) t → Steps p.tables e below (s₁.setTop (entryFrame m #[(.int p1), (.long q2), (.long q3), (.int p4)] 6)) t := by
      intro t k
      refine go1 t ?_
      show Steps p.tables e below (s₁.setTop (mkF m 1 #[.val (.int p1), .val (.long q2), .second, .val (.long q3), .second, .val (.int p4)] [(.int p1)])) _
      refine XS.ifNo X0.here hx rfl (hb hby d1_1) rfl ((if0 _ _).trans (teq hc1).2) ?_
      show Steps p.tables e below (s₁.setTop (mkF m 4 #[.val (.int p1), .val (.long q2), .second, .val (.long q3), .second, .val (.int p4)] [])) _
      refine XS.lconst X0.here hx rfl (hb hby d1_4) ?_
      exact k
    obtain ⟨fs, hr, hrun, hended, hW, hsame⟩ := X0.leave (v := some (.long (0 : Int64))) (fun h => by rw [Bd.returns] at h; cases h)
    refine ⟨_, _, go2 _ ?_, hrun, hended, _, _, rfl, ?_, ⟨_, rfl⟩, hW, hsame.mono (by decide) (by decide)⟩
    · show Steps p.tables e below (s₁.setTop (mkF m 5 #[.val (.int p1), .val (.long q2), .second, .val (.long q3), .second, .val (.int p4)] [(.long (0 : Int64))])) _
      exact X0.lreturnOut hx Bd.returns (hb hby d1_5) hr
    · show Q1 Z p1 q2 q3 p4 h0 n0 _ s₁.heap _
      rw [e0]
      exact ⟨by simp [own_pick, hc1], N0, rfl⟩
  · skip
    have go3 : ∀ t, Steps p.tables e below (s₁.setTop (mkF m 8 #[.val (.int p1), .val (.long q2), .second, .val (.long q3), .second, .val (.int p4)] [(.int (1 : Int32)), (.int p1)])) t → Steps p.tables e below (s₁.setTop (entryFrame m #[(.int p1), (.long q2), (.long q3), (.int p4)] 6)) t := by
      intro t k
      refine go1 t ?_
      show Steps p.tables e below (s₁.setTop (mkF m 1 #[.val (.int p1), .val (.long q2), .second, .val (.long q3), .second, .val (.int p4)] [(.int p1)])) _
      refine XS.ifYes X0.here hx rfl (pc0 := 1) (pc' := 6) rfl (hb hby d1_1) rfl ((if0 _ _).trans (feq hc1).2) (by decide) (by decide) ?_
      show Steps p.tables e below (s₁.setTop (mkF m 6 #[.val (.int p1), .val (.long q2), .second, .val (.long q3), .second, .val (.int p4)] [])) _
      refine XS.iloadN X0.here hx rfl (hb hby d1_6) rfl ?_
      show Steps p.tables e below (s₁.setTop (mkF m 7 #[.val (.int p1), .val (.long q2), .second, .val (.long q3), .second, .val (.int p4)] [(.int p1)])) _
      refine XS.iconst X0.here hx rfl (hb hby d1_7) ?_
      exact k
    by_cases hc8 : p1 = (1 : Int32)
    · skip
      have go4 : ∀ t, Steps p.tables e below (s₁.setTop (mkF m 12 #[.val (.int p1), .val (.long q2), .second, .val (.long q3), .second, .val (.int p4)] [(.long q2)])) t → Steps p.tables e below (s₁.setTop (entryFrame m #[(.int p1), (.long q2), (.long q3), (.int p4)] 6)) t := by
        intro t k
        refine go3 t ?_
        show Steps p.tables e below (s₁.setTop (mkF m 8 #[.val (.int p1), .val (.long q2), .second, .val (.long q3), .second, .val (.int p4)] [(.int (1 : Int32)), (.int p1)])) _
        refine XS.icmpNo X0.here hx rfl (hb hby d1_8) rfl (teq hc8).2 ?_
        show Steps p.tables e below (s₁.setTop (mkF m 11 #[.val (.int p1), .val (.long q2), .second, .val (.long q3), .second, .val (.int p4)] [])) _
        refine XS.lloadN X0.here hx rfl (hb hby d1_11) rfl ?_
        exact k
      obtain ⟨fs, hr, hrun, hended, hW, hsame⟩ := X0.leave (v := some (.long q2)) (fun h => by rw [Bd.returns] at h; cases h)
      refine ⟨_, _, go4 _ ?_, hrun, hended, _, _, rfl, ?_, ⟨_, rfl⟩, hW, hsame.mono (by decide) (by decide)⟩
      · show Steps p.tables e below (s₁.setTop (mkF m 12 #[.val (.int p1), .val (.long q2), .second, .val (.long q3), .second, .val (.int p4)] [(.long q2)])) _
        exact X0.lreturnOut hx Bd.returns (hb hby d1_12) hr
      · show Q1 Z p1 q2 q3 p4 h0 n0 _ s₁.heap _
        rw [e0]
        exact ⟨by simp [own_pick, hc1, hc8], N0, rfl⟩
    · skip
      have go5 : ∀ t, Steps p.tables e below (s₁.setTop (mkF m 15 #[.val (.int p1), .val (.long q2), .second, .val (.long q3), .second, .val (.int p4)] [(.int (2 : Int32)), (.int p1)])) t → Steps p.tables e below (s₁.setTop (entryFrame m #[(.int p1), (.long q2), (.long q3), (.int p4)] 6)) t := by
        intro t k
        refine go3 t ?_
        show Steps p.tables e below (s₁.setTop (mkF m 8 #[.val (.int p1), .val (.long q2), .second, .val (.long q3), .second, .val (.int p4)] [(.int (1 : Int32)), (.int p1)])) _
        refine XS.icmpYes X0.here hx rfl (pc0 := 8) (pc' := 13) rfl (hb hby d1_8) rfl (feq hc8).2 (by decide) (by decide) ?_
        show Steps p.tables e below (s₁.setTop (mkF m 13 #[.val (.int p1), .val (.long q2), .second, .val (.long q3), .second, .val (.int p4)] [])) _
        refine XS.iloadN X0.here hx rfl (hb hby d1_13) rfl ?_
        show Steps p.tables e below (s₁.setTop (mkF m 14 #[.val (.int p1), .val (.long q2), .second, .val (.long q3), .second, .val (.int p4)] [(.int p1)])) _
        refine XS.iconst X0.here hx rfl (hb hby d1_14) ?_
        exact k
      by_cases hc15 : p1 = (2 : Int32)
      · skip
        have go6 : ∀ t, Steps p.tables e below (s₁.setTop (mkF m 19 #[.val (.int p1), .val (.long q2), .second, .val (.long q3), .second, .val (.int p4)] [(.long q3)])) t → Steps p.tables e below (s₁.setTop (entryFrame m #[(.int p1), (.long q2), (.long q3), (.int p4)] 6)) t := by
          intro t k
          refine go5 t ?_
          show Steps p.tables e below (s₁.setTop (mkF m 15 #[.val (.int p1), .val (.long q2), .second, .val (.long q3), .second, .val (.int p4)] [(.int (2 : Int32)), (.int p1)])) _
          refine XS.icmpNo X0.here hx rfl (hb hby d1_15) rfl (teq hc15).2 ?_
          show Steps p.tables e below (s₁.setTop (mkF m 18 #[.val (.int p1), .val (.long q2), .second, .val (.long q3), .second, .val (.int p4)] [])) _
          refine XS.lloadN X0.here hx rfl (hb hby d1_18) rfl ?_
          exact k
        obtain ⟨fs, hr, hrun, hended, hW, hsame⟩ := X0.leave (v := some (.long q3)) (fun h => by rw [Bd.returns] at h; cases h)
        refine ⟨_, _, go6 _ ?_, hrun, hended, _, _, rfl, ?_, ⟨_, rfl⟩, hW, hsame.mono (by decide) (by decide)⟩
        · show Steps p.tables e below (s₁.setTop (mkF m 19 #[.val (.int p1), .val (.long q2), .second, .val (.long q3), .second, .val (.int p4)] [(.long q3)])) _
          exact X0.lreturnOut hx Bd.returns (hb hby d1_19) hr
        · show Q1 Z p1 q2 q3 p4 h0 n0 _ s₁.heap _
          rw [e0]
          exact ⟨by simp [own_pick, hc1, hc8, hc15], N0, rfl⟩
      · skip
        have go7 : ∀ t, Steps p.tables e below (s₁.setTop (mkF m 26 #[.val (.int p1), .val (.long q2), .second, .val (.long q3), .second, .val (.int p4)] [(.long (q2 ^^^ ((1 : Int64) <<< (p4 &&& 0x3f).toInt64)))])) t → Steps p.tables e below (s₁.setTop (entryFrame m #[(.int p1), (.long q2), (.long q3), (.int p4)] 6)) t := by
          intro t k
          refine go5 t ?_
          show Steps p.tables e below (s₁.setTop (mkF m 15 #[.val (.int p1), .val (.long q2), .second, .val (.long q3), .second, .val (.int p4)] [(.int (2 : Int32)), (.int p1)])) _
          refine XS.icmpYes X0.here hx rfl (pc0 := 15) (pc' := 20) rfl (hb hby d1_15) rfl (feq hc15).2 (by decide) (by decide) ?_
          show Steps p.tables e below (s₁.setTop (mkF m 20 #[.val (.int p1), .val (.long q2), .second, .val (.long q3), .second, .val (.int p4)] [])) _
          refine XS.lloadN X0.here hx rfl (hb hby d1_20) rfl ?_
          show Steps p.tables e below (s₁.setTop (mkF m 21 #[.val (.int p1), .val (.long q2), .second, .val (.long q3), .second, .val (.int p4)] [(.long q2)])) _
          refine XS.lconst X0.here hx rfl (hb hby d1_21) ?_
          show Steps p.tables e below (s₁.setTop (mkF m 22 #[.val (.int p1), .val (.long q2), .second, .val (.long q3), .second, .val (.int p4)] [(.long (1 : Int64)), (.long q2)])) _
          refine XS.iload X0.here hx rfl (hb hby d1_22) rfl ?_
          show Steps p.tables e below (s₁.setTop (mkF m 24 #[.val (.int p1), .val (.long q2), .second, .val (.long q3), .second, .val (.int p4)] [(.int p4), (.long (1 : Int64)), (.long q2)])) _
          refine XS.lshl X0.here hx rfl (hb hby d1_24) rfl ?_
          show Steps p.tables e below (s₁.setTop (mkF m 25 #[.val (.int p1), .val (.long q2), .second, .val (.long q3), .second, .val (.int p4)] [(.long ((1 : Int64) <<< (p4 &&& 0x3f).toInt64)), (.long q2)])) _
          refine XS.lxor X0.here hx rfl (hb hby d1_25) rfl ?_
          exact k
        obtain ⟨fs, hr, hrun, hended, hW, hsame⟩ := X0.leave (v := some (.long (q2 ^^^ ((1 : Int64) <<< (p4 &&& 0x3f).toInt64)))) (fun h => by rw [Bd.returns] at h; cases h)
        refine ⟨_, _, go7 _ ?_, hrun, hended, _, _, rfl, ?_, ⟨_, rfl⟩, hW, hsame.mono (by decide) (by decide)⟩
        · show Steps p.tables e below (s₁.setTop (mkF m 26 #[.val (.int p1), .val (.long q2), .second, .val (.long q3), .second, .val (.int p4)] [(.long (q2 ^^^ ((1 : Int64) <<< (p4 &&& 0x3f).toInt64)))])) _
          exact X0.lreturnOut hx Bd.returns (hb hby d1_26) hr
        · show Q1 Z p1 q2 q3 p4 h0 n0 _ s₁.heap _
          rw [e0]
          exact ⟨by simp [own_pick, hc1, hc8, hc15], N0, rfl⟩
theorem d3_0 : decode jdk_30_method_1_code 0 = .ok (.aload_n 0, 1) := by decide +kernel
theorem d3_1 : decode jdk_30_method_1_code 1 = .ok (.invokespecial 1, 3) := by decide +kernel
theorem d3_4 : decode jdk_30_method_1_code 4 = .ok (.return_, 1) := by decide +kernel
theorem pn_3 : plainName "java/lang/Record" = true := by first | (simp [plainName, overriddenIn]; done) | decide +kernel
theorem ef_3 (m : MethodId) (x0 : Addr) : entryFrame m #[(.ref x0)] 1 = mkF m 0 #[.val (.ref x0)] [] := by first | (simp [entryFrame, mkF, argsToLocals, Value.category]; done) | rfl
def Q3 (Z : State) (a1 : Addr) (h0 : Heap) (n0 : Nat) (v : Option Value) (h : Heap) (L : List Loc) : Prop := v = none ∧ Fr n0 L ∧ h = h0
set_option maxRecDepth 65536 in
set_option maxHeartbeats 40000000 in
theorem rm3 (l : Launch) (Z : State) (a0 : Array Value) (hw : ∀ d ∈ tables_1, d.before a0 Z = true) (ws : List Jvm.Cond) (a1 : Addr) (h0 : Heap) (n0 : Nat) (Z0 : n0 ≤ h0.size) :
    MetFree l (⟨"java/lang/Record", "<init>", "()V"⟩ : MethodName) (head1 (Jvm.Cond.code (⟨"java/lang/Record", "<init>", "()V"⟩ : MethodName) jdk_30_method_1_code 1 none :: ws) ({ frames := 1, cells := 0, slots := 0, locals := 12 } : Room)) (fun a U => a = #[(.ref a1)] ∧ Z.Warmed39 U.vm ∧ U.heap = h0) (fun _ _ _ _ _ => True) (fun _ U o U' => ∃ v L, o = .returned v ∧ Q3 Z a1 h0 n0 v U'.heap L ∧ FrameEnd U o U' L ({ frames := 1, cells := 0, slots := 0, locals := 12 } : Room).cells ({ frames := 1, cells := 0, slots := 0, locals := 12 } : Room).slots) := by
  refine MetFree.of_bodySF (plainFor_of_name pn_3) hisR ?_
  intro p e s m args below meth c s₁ Bd hml0 hP hK
  obtain ⟨rfl, hZ, hh⟩ := hP
  have hx := Bd.exec
  have hby := Bd.bytes
  have hml : c.maxLocals = 1 := hml0
  have hown : s.vm.findClass "java/lang/Record" = some m.cls := findClass_of_methodNamed Bd.named
  have hnm := (name_of_methodNamed Bd.named Bd.method).1
  have X0 : Stand p l e ({ frames := 1, cells := 0, slots := 0, locals := 12 } : Room) s m #[(.ref a1)] below meth c s₁ [] 0 0 := Stand.of_body Bd
  have e0 : s₁.heap = h0 := by rw [← hh, Bd.state]; rfl
  have N0 := Fr.nil n0
  have go0 : ∀ t, Steps p.tables e below (s₁.setTop (mkF m 0 #[.val (.ref a1)] [])) t → Steps p.tables e below (s₁.setTop (entryFrame m #[(.ref a1)] 1)) t := fun t k => castTop (ef_3 m a1) k
  have go1 : ∀ t, Steps p.tables e below (s₁.setTop (mkF m 1 #[.val (.ref a1)] [(.ref a1)])) t → Steps p.tables e below (s₁.setTop (entryFrame m #[(.ref a1)] 1)) t := by
    intro t k
    refine go0 t ?_
    show Steps p.tables e below (s₁.setTop (mkF m 0 #[.val (.ref a1)] [])) _
    refine XS.aloadN X0.here hx rfl (hb hby d3_0) rfl rfl ?_
    exact k
  obtain ⟨T2, X2, e2, st2⟩ := initO X0 hx hZ hown (hw _ (List.mem_of_getElem? (i := 16) rfl)) (hw _ (List.mem_of_getElem? (i := 17) rfl)) (hw _ (List.mem_of_getElem? (i := 18) rfl)) e0 (g := (mkF m 1 #[.val (.ref a1)] [(.ref a1)])) rfl (by rw [hml]; rfl) rfl (hb hby d3_1) (by decide) (W := 0) (by show 2 * 0 + _ ≤ _; exact Nat.le_of_eq rfl) (by decide)
  have go3 : ∀ t, Steps p.tables e below (T2.setTop (mkF m 4 #[.val (.ref a1)] [])) t → Steps p.tables e below (s₁.setTop (entryFrame m #[(.ref a1)] 1)) t := fun t k => go1 t (st2 _ k)
  obtain ⟨fs, hr, hrun, hended, hW, hsame⟩ := X2.leave (v := none) (fun _ => rfl)
  refine ⟨_, _, go3 _ ?_, hrun, hended, _, _, rfl, ?_, ⟨_, rfl⟩, hW, hsame.mono (by decide) (by decide)⟩
  · show Steps p.tables e below (T2.setTop (mkF m 4 #[.val (.ref a1)] [])) _
    exact X2.returnOut hx Bd.returns (hb hby d3_4) hr
  · show Q3 Z a1 h0 n0 _ T2.heap _
    rw [e2]
    exact ⟨rfl, N0, rfl⟩
theorem d2_0 : decode prog_29_method_1_code 0 = .ok (.aload_n 0, 1) := by decide +kernel
theorem d2_1 : decode prog_29_method_1_code 1 = .ok (.invokespecial 3, 3) := by decide +kernel
theorem d2_4 : decode prog_29_method_1_code 4 = .ok (.aload_n 0, 1) := by decide +kernel
theorem d2_5 : decode prog_29_method_1_code 5 = .ok (.lload_n 1, 1) := by decide +kernel
theorem d2_6 : decode prog_29_method_1_code 6 = .ok (.putfield 9, 3) := by decide +kernel
theorem d2_9 : decode prog_29_method_1_code 9 = .ok (.aload_n 0, 1) := by decide +kernel
theorem d2_10 : decode prog_29_method_1_code 10 = .ok (.lload_n 3, 1) := by decide +kernel
theorem d2_11 : decode prog_29_method_1_code 11 = .ok (.putfield 15, 3) := by decide +kernel
theorem d2_14 : decode prog_29_method_1_code 14 = .ok (.aload_n 0, 1) := by decide +kernel
theorem d2_15 : decode prog_29_method_1_code 15 = .ok (.lload 5, 2) := by decide +kernel
theorem d2_17 : decode prog_29_method_1_code 17 = .ok (.putfield 18, 3) := by decide +kernel
theorem d2_20 : decode prog_29_method_1_code 20 = .ok (.aload_n 0, 1) := by decide +kernel
theorem d2_21 : decode prog_29_method_1_code 21 = .ok (.lload 7, 2) := by decide +kernel
theorem d2_23 : decode prog_29_method_1_code 23 = .ok (.putfield 21, 3) := by decide +kernel
theorem d2_26 : decode prog_29_method_1_code 26 = .ok (.return_, 1) := by decide +kernel
theorem pd_2_0 : parseMethodDescriptor "()V" = some ⟨[], none⟩ := by decide +kernel
theorem pn_2 : plainName "com/example/scripbook/scripbook/file/RecordMark" = true := by first | (simp [plainName, overriddenIn]; done) | decide +kernel
theorem ef_2 (m : MethodId) (x0 : Addr) (x1 : Int64) (x2 : Int64) (x3 : Int64) (x4 : Int64) : entryFrame m #[(.ref x0), (.long x1), (.long x2), (.long x3), (.long x4)] 9 = mkF m 0 #[.val (.ref x0), .val (.long x1), .second, .val (.long x2), .second, .val (.long x3), .second, .val (.long x4), .second] [] := by first | (simp [entryFrame, mkF, argsToLocals, Value.category]; done) | rfl
def Q2 (Z : State) (a1 : Addr) (q2 : Int64) (q3 : Int64) (q4 : Int64) (q5 : Int64) (u_fromBytes : Value) (u_fromHash : Value) (u_bytes : Value) (u_hash : Value) (h0 : Heap) (n0 : Nat) (v : Option Value) (h : Heap) (L : List Loc) : Prop := v = none ∧ Fr n0 L ∧ Keep h0 h [a1] ∧ Exa Z h a1 "com/example/scripbook/scripbook/file/RecordMark" ∧ Fld Z h a1 "com/example/scripbook/scripbook/file/RecordMark" "fromBytes" "J" (.long q2) ∧ Fld Z h a1 "com/example/scripbook/scripbook/file/RecordMark" "fromHash" "J" (.long q3) ∧ Fld Z h a1 "com/example/scripbook/scripbook/file/RecordMark" "bytes" "J" (.long q4) ∧ Fld Z h a1 "com/example/scripbook/scripbook/file/RecordMark" "hash" "J" (.long q5)
set_option maxRecDepth 65536 in
set_option maxHeartbeats 40000000 in
theorem rm2 (l : Launch) (Z : State) (a0 : Array Value) (hw : ∀ d ∈ tables_1, d.before a0 Z = true) (ws : List Jvm.Cond) (a1 : Addr) (q2 : Int64) (q3 : Int64) (q4 : Int64) (q5 : Int64) (u_fromBytes : Value) (u_fromHash : Value) (u_bytes : Value) (u_hash : Value) (h0 : Heap) (n0 : Nat) (Z0 : n0 ≤ h0.size) (E_a1 : Exa Z h0 a1 "com/example/scripbook/scripbook/file/RecordMark") (g_a1 : n0 ≤ a1) (F_fromBytes : Fld Z h0 a1 "com/example/scripbook/scripbook/file/RecordMark" "fromBytes" "J" u_fromBytes) (F_fromHash : Fld Z h0 a1 "com/example/scripbook/scripbook/file/RecordMark" "fromHash" "J" u_fromHash) (F_bytes : Fld Z h0 a1 "com/example/scripbook/scripbook/file/RecordMark" "bytes" "J" u_bytes) (F_hash : Fld Z h0 a1 "com/example/scripbook/scripbook/file/RecordMark" "hash" "J" u_hash) :
    MetFree l (⟨"com/example/scripbook/scripbook/file/RecordMark", "<init>", "(JJJJ)V"⟩ : MethodName) (head1 (Jvm.Cond.code (⟨"com/example/scripbook/scripbook/file/RecordMark", "<init>", "(JJJJ)V"⟩ : MethodName) prog_29_method_1_code 9 none :: ws) ({ frames := 2, cells := 0, slots := 0, locals := 24 } : Room)) (fun a U => a = #[(.ref a1), (.long q2), (.long q3), (.long q4), (.long q5)] ∧ Z.Warmed39 U.vm ∧ U.heap = h0) (fun _ _ _ _ _ => True) (fun _ U o U' => ∃ v L, o = .returned v ∧ Q2 Z a1 q2 q3 q4 q5 u_fromBytes u_fromHash u_bytes u_hash h0 n0 v U'.heap L ∧ FrameEnd U o U' L ({ frames := 2, cells := 0, slots := 0, locals := 24 } : Room).cells ({ frames := 2, cells := 0, slots := 0, locals := 24 } : Room).slots) := by
  refine MetFree.of_bodySF (plainFor_of_name pn_2) hisR ?_
  intro p e s m args below meth c s₁ Bd hml0 hP hK
  obtain ⟨rfl, hZ, hh⟩ := hP
  have hx := Bd.exec
  have hby := Bd.bytes
  have hml : c.maxLocals = 9 := hml0
  have hown : s.vm.findClass "com/example/scripbook/scripbook/file/RecordMark" = some m.cls := findClass_of_methodNamed Bd.named
  have hnm := (name_of_methodNamed Bd.named Bd.method).1
  have X0 : Stand p l e ({ frames := 2, cells := 0, slots := 0, locals := 24 } : Room) s m #[(.ref a1), (.long q2), (.long q3), (.long q4), (.long q5)] below meth c s₁ [] 0 0 := Stand.of_body Bd
  have e0 : s₁.heap = h0 := by rw [← hh, Bd.state]; rfl
  have N0 := Fr.nil n0
  have go0 : ∀ t, Steps p.tables e below (s₁.setTop (mkF m 0 #[.val (.ref a1), .val (.long q2), .second, .val (.long q3), .second, .val (.long q4), .second, .val (.long q5), .second] [])) t → Steps p.tables e below (s₁.setTop (entryFrame m #[(.ref a1), (.long q2), (.long q3), (.long q4), (.long q5)] 9)) t := fun t k => castTop (ef_2 m a1 q2 q3 q4 q5) k
  have K0 : Keep h0 h0 [a1] := Keep.refl h0 [a1]
  have go1 : ∀ t, Steps p.tables e below (s₁.setTop (mkF m 1 #[.val (.ref a1), .val (.long q2), .second, .val (.long q3), .second, .val (.long q4), .second, .val (.long q5), .second] [(.ref a1)])) t → Steps p.tables e below (s₁.setTop (entryFrame m #[(.ref a1), (.long q2), (.long q3), (.long q4), (.long q5)] 9)) t := by
    intro t k
    refine go0 t ?_
    show Steps p.tables e below (s₁.setTop (mkF m 0 #[.val (.ref a1), .val (.long q2), .second, .val (.long q3), .second, .val (.long q4), .second, .val (.long q5), .second] [])) _
    refine XS.aloadN X0.here hx rfl (hb hby d2_0) rfl rfl ?_
    exact k
  obtain ⟨_, _, ⟨T2, L2, k2, n2⟩, -, X2, ⟨Lc2, hQ2, l2, y2, z2⟩, st2⟩ := X0.specialBack hx (y := (⟨"java/lang/Record", "<init>", "()V"⟩ : MethodName)) rfl hown (mvT hZ (hw _ (List.mem_of_getElem? (i := 11) rfl))) (mvT hZ (hw _ (List.mem_of_getElem? (i := 12) rfl))) (mvT hZ (hw _ (List.mem_of_getElem? (i := 15) rfl))) (by decide) (backOf (W := 0) (rm3 l Z a0 hw [] a1 h0 n0 Z0) hZ (hw _ (List.mem_of_getElem? (i := 15) rfl)) (hw _ (List.mem_of_getElem? (i := 14) rfl)) (by decide) (by decide)) (g := (mkF m 1 #[.val (.ref a1), .val (.long q2), .second, .val (.long q3), .second, .val (.long q4), .second, .val (.long q5), .second] [(.ref a1)])) rfl (by rw [hml]; rfl) (Steps.refl _) (a := a1) (argsL := []) (rest := []) (lenOf pd_2_0 rfl) rfl (by show 2 * 0 + _ ≤ _; exact Nat.le_of_eq rfl) (hb hby d2_1) (fun _ _ => ⟨rfl, e0, (by decide : 0 + 0 ≤ _), (by decide : 0 + 0 ≤ _)⟩)
  dsimp only [Pt.U, Pt.locs, Pt.cells, Pt.slots] at X2 l2 y2 z2 st2 hQ2
  subst l2 y2 z2
  obtain ⟨rfl, N2q, e2⟩ := hQ2
  have N2 := Fr.app N0 N2q
  have go3 : ∀ t, Steps p.tables e below (T2.setTop (mkF m 4 #[.val (.ref a1), .val (.long q2), .second, .val (.long q3), .second, .val (.long q4), .second, .val (.long q5), .second] [])) t → Steps p.tables e below (s₁.setTop (entryFrame m #[(.ref a1), (.long q2), (.long q3), (.long q4), (.long q5)] 9)) t := fun t k => go1 t (st2.trans k)
  have go4 : ∀ t, Steps p.tables e below (T2.setTop (mkF m 6 #[.val (.ref a1), .val (.long q2), .second, .val (.long q3), .second, .val (.long q4), .second, .val (.long q5), .second] [(.long q2), (.ref a1)])) t → Steps p.tables e below (s₁.setTop (entryFrame m #[(.ref a1), (.long q2), (.long q3), (.long q4), (.long q5)] 9)) t := by
    intro t k
    refine go3 t ?_
    show Steps p.tables e below (T2.setTop (mkF m 4 #[.val (.ref a1), .val (.long q2), .second, .val (.long q3), .second, .val (.long q4), .second, .val (.long q5), .second] [])) _
    refine XS.aloadN X2.here hx rfl (hb hby d2_4) rfl rfl ?_
    show Steps p.tables e below (T2.setTop (mkF m 5 #[.val (.ref a1), .val (.long q2), .second, .val (.long q3), .second, .val (.long q4), .second, .val (.long q5), .second] [(.ref a1)])) _
    refine XS.lloadN X2.here hx rfl (hb hby d2_5) rfl ?_
    exact k
  obtain ⟨T5, h5, X5, e5, W5, st5⟩ := putF X2 hx hZ hown (host := "") (Or.inl (hw _ (List.mem_of_getElem? (i := 19) rfl))) Via.refl e2 F_fromBytes E_a1 (Or.inr ⟨(hw _ (List.mem_of_getElem? (i := 20) rfl)), rfl, hnm⟩) (hw _ (List.mem_of_getElem? (i := 6) rfl)) (ty := .long) (by decide) rfl rfl (g := (mkF m 6 #[.val (.ref a1), .val (.long q2), .second, .val (.long q3), .second, .val (.long q4), .second, .val (.long q5), .second] [(.long q2), (.ref a1)])) rfl rfl (hb hby d2_6)
  have Fw5 := F_fromBytes.same W5
  have c6 := E_a1.wr W5
  have c7 := F_fromHash.other W5 (Or.inr (slot_ne (Or.inr (hw _ (List.mem_of_getElem? (i := 22) rfl))) (Or.inr (hw _ (List.mem_of_getElem? (i := 20) rfl))) (by decide) (t := .long) (t' := .long) (by decide) (by decide)))
  have c8 := F_bytes.other W5 (Or.inr (slot_ne (Or.inr (hw _ (List.mem_of_getElem? (i := 24) rfl))) (Or.inr (hw _ (List.mem_of_getElem? (i := 20) rfl))) (by decide) (t := .long) (t' := .long) (by decide) (by decide)))
  have c9 := F_hash.other W5 (Or.inr (slot_ne (Or.inr (hw _ (List.mem_of_getElem? (i := 26) rfl))) (Or.inr (hw _ (List.mem_of_getElem? (i := 20) rfl))) (by decide) (t := .long) (t' := .long) (by decide) (by decide)))
  have K5 : Keep h0 h5 [a1] := K0.wr W5 (Or.inl (List.mem_of_getElem? (i := 0) rfl))
  have Z5 : n0 ≤ h5.size := Nat.le_trans Z0 (Keep.of_wr W5).1
  have N5 := Fr.snoc X5 N2 g_a1
  have go10 : ∀ t, Steps p.tables e below (T5.setTop (mkF m 9 #[.val (.ref a1), .val (.long q2), .second, .val (.long q3), .second, .val (.long q4), .second, .val (.long q5), .second] [])) t → Steps p.tables e below (s₁.setTop (entryFrame m #[(.ref a1), (.long q2), (.long q3), (.long q4), (.long q5)] 9)) t := fun t k => go4 t (st5 _ k)
  have go11 : ∀ t, Steps p.tables e below (T5.setTop (mkF m 11 #[.val (.ref a1), .val (.long q2), .second, .val (.long q3), .second, .val (.long q4), .second, .val (.long q5), .second] [(.long q3), (.ref a1)])) t → Steps p.tables e below (s₁.setTop (entryFrame m #[(.ref a1), (.long q2), (.long q3), (.long q4), (.long q5)] 9)) t := by
    intro t k
    refine go10 t ?_
    show Steps p.tables e below (T5.setTop (mkF m 9 #[.val (.ref a1), .val (.long q2), .second, .val (.long q3), .second, .val (.long q4), .second, .val (.long q5), .second] [])) _
    refine XS.aloadN X5.here hx rfl (hb hby d2_9) rfl rfl ?_
    show Steps p.tables e below (T5.setTop (mkF m 10 #[.val (.ref a1), .val (.long q2), .second, .val (.long q3), .second, .val (.long q4), .second, .val (.long q5), .second] [(.ref a1)])) _
    refine XS.lloadN X5.here hx rfl (hb hby d2_10) rfl ?_
    exact k
  obtain ⟨T12, h12, X12, e12, W12, st12⟩ := putF X5 hx hZ hown (host := "") (Or.inl (hw _ (List.mem_of_getElem? (i := 21) rfl))) Via.refl e5 c7 c6 (Or.inr ⟨(hw _ (List.mem_of_getElem? (i := 22) rfl)), rfl, hnm⟩) (hw _ (List.mem_of_getElem? (i := 6) rfl)) (ty := .long) (by decide) rfl rfl (g := (mkF m 11 #[.val (.ref a1), .val (.long q2), .second, .val (.long q3), .second, .val (.long q4), .second, .val (.long q5), .second] [(.long q3), (.ref a1)])) rfl rfl (hb hby d2_11)
  have Fw12 := c7.same W12
  have c13 := c6.wr W12
  have c14 := c8.other W12 (Or.inr (slot_ne (Or.inr (hw _ (List.mem_of_getElem? (i := 24) rfl))) (Or.inr (hw _ (List.mem_of_getElem? (i := 22) rfl))) (by decide) (t := .long) (t' := .long) (by decide) (by decide)))
  have c15 := c9.other W12 (Or.inr (slot_ne (Or.inr (hw _ (List.mem_of_getElem? (i := 26) rfl))) (Or.inr (hw _ (List.mem_of_getElem? (i := 22) rfl))) (by decide) (t := .long) (t' := .long) (by decide) (by decide)))
  have c16 := Fw5.other W12 (Or.inr (slot_ne (Or.inr (hw _ (List.mem_of_getElem? (i := 20) rfl))) (Or.inr (hw _ (List.mem_of_getElem? (i := 22) rfl))) (by decide) (t := .long) (t' := .long) (by decide) (by decide)))
  have K12 : Keep h0 h12 [a1] := K5.wr W12 (Or.inl (List.mem_of_getElem? (i := 0) rfl))
  have Z12 : n0 ≤ h12.size := Nat.le_trans Z5 (Keep.of_wr W12).1
  have N12 := Fr.snoc X12 N5 g_a1
  have go17 : ∀ t, Steps p.tables e below (T12.setTop (mkF m 14 #[.val (.ref a1), .val (.long q2), .second, .val (.long q3), .second, .val (.long q4), .second, .val (.long q5), .second] [])) t → Steps p.tables e below (s₁.setTop (entryFrame m #[(.ref a1), (.long q2), (.long q3), (.long q4), (.long q5)] 9)) t := fun t k => go11 t (st12 _ k)
  have go18 : ∀ t, Steps p.tables e below (T12.setTop (mkF m 17 #[.val (.ref a1), .val (.long q2), .second, .val (.long q3), .second, .val (.long q4), .second, .val (.long q5), .second] [(.long q4), (.ref a1)])) t → Steps p.tables e below (s₁.setTop (entryFrame m #[(.ref a1), (.long q2), (.long q3), (.long q4), (.long q5)] 9)) t := by
    intro t k
    refine go17 t ?_
    show Steps p.tables e below (T12.setTop (mkF m 14 #[.val (.ref a1), .val (.long q2), .second, .val (.long q3), .second, .val (.long q4), .second, .val (.long q5), .second] [])) _
    refine XS.aloadN X12.here hx rfl (hb hby d2_14) rfl rfl ?_
    show Steps p.tables e below (T12.setTop (mkF m 15 #[.val (.ref a1), .val (.long q2), .second, .val (.long q3), .second, .val (.long q4), .second, .val (.long q5), .second] [(.ref a1)])) _
    refine XS.lload X12.here hx rfl (hb hby d2_15) rfl ?_
    exact k
  obtain ⟨T19, h19, X19, e19, W19, st19⟩ := putF X12 hx hZ hown (host := "") (Or.inl (hw _ (List.mem_of_getElem? (i := 23) rfl))) Via.refl e12 c14 c13 (Or.inr ⟨(hw _ (List.mem_of_getElem? (i := 24) rfl)), rfl, hnm⟩) (hw _ (List.mem_of_getElem? (i := 6) rfl)) (ty := .long) (by decide) rfl rfl (g := (mkF m 17 #[.val (.ref a1), .val (.long q2), .second, .val (.long q3), .second, .val (.long q4), .second, .val (.long q5), .second] [(.long q4), (.ref a1)])) rfl rfl (hb hby d2_17)
  have Fw19 := c14.same W19
  have c20 := c13.wr W19
  have c21 := c15.other W19 (Or.inr (slot_ne (Or.inr (hw _ (List.mem_of_getElem? (i := 26) rfl))) (Or.inr (hw _ (List.mem_of_getElem? (i := 24) rfl))) (by decide) (t := .long) (t' := .long) (by decide) (by decide)))
  have c22 := c16.other W19 (Or.inr (slot_ne (Or.inr (hw _ (List.mem_of_getElem? (i := 20) rfl))) (Or.inr (hw _ (List.mem_of_getElem? (i := 24) rfl))) (by decide) (t := .long) (t' := .long) (by decide) (by decide)))
  have c23 := Fw12.other W19 (Or.inr (slot_ne (Or.inr (hw _ (List.mem_of_getElem? (i := 22) rfl))) (Or.inr (hw _ (List.mem_of_getElem? (i := 24) rfl))) (by decide) (t := .long) (t' := .long) (by decide) (by decide)))
  have K19 : Keep h0 h19 [a1] := K12.wr W19 (Or.inl (List.mem_of_getElem? (i := 0) rfl))
  have Z19 : n0 ≤ h19.size := Nat.le_trans Z12 (Keep.of_wr W19).1
  have N19 := Fr.snoc X19 N12 g_a1
  have go24 : ∀ t, Steps p.tables e below (T19.setTop (mkF m 20 #[.val (.ref a1), .val (.long q2), .second, .val (.long q3), .second, .val (.long q4), .second, .val (.long q5), .second] [])) t → Steps p.tables e below (s₁.setTop (entryFrame m #[(.ref a1), (.long q2), (.long q3), (.long q4), (.long q5)] 9)) t := fun t k => go18 t (st19 _ k)
  have go25 : ∀ t, Steps p.tables e below (T19.setTop (mkF m 23 #[.val (.ref a1), .val (.long q2), .second, .val (.long q3), .second, .val (.long q4), .second, .val (.long q5), .second] [(.long q5), (.ref a1)])) t → Steps p.tables e below (s₁.setTop (entryFrame m #[(.ref a1), (.long q2), (.long q3), (.long q4), (.long q5)] 9)) t := by
    intro t k
    refine go24 t ?_
    show Steps p.tables e below (T19.setTop (mkF m 20 #[.val (.ref a1), .val (.long q2), .second, .val (.long q3), .second, .val (.long q4), .second, .val (.long q5), .second] [])) _
    refine XS.aloadN X19.here hx rfl (hb hby d2_20) rfl rfl ?_
    show Steps p.tables e below (T19.setTop (mkF m 21 #[.val (.ref a1), .val (.long q2), .second, .val (.long q3), .second, .val (.long q4), .second, .val (.long q5), .second] [(.ref a1)])) _
    refine XS.lload X19.here hx rfl (hb hby d2_21) rfl ?_
    exact k
  obtain ⟨T26, h26, X26, e26, W26, st26⟩ := putF X19 hx hZ hown (host := "") (Or.inl (hw _ (List.mem_of_getElem? (i := 25) rfl))) Via.refl e19 c21 c20 (Or.inr ⟨(hw _ (List.mem_of_getElem? (i := 26) rfl)), rfl, hnm⟩) (hw _ (List.mem_of_getElem? (i := 6) rfl)) (ty := .long) (by decide) rfl rfl (g := (mkF m 23 #[.val (.ref a1), .val (.long q2), .second, .val (.long q3), .second, .val (.long q4), .second, .val (.long q5), .second] [(.long q5), (.ref a1)])) rfl rfl (hb hby d2_23)
  have Fw26 := c21.same W26
  have c27 := c20.wr W26
  have c28 := c22.other W26 (Or.inr (slot_ne (Or.inr (hw _ (List.mem_of_getElem? (i := 20) rfl))) (Or.inr (hw _ (List.mem_of_getElem? (i := 26) rfl))) (by decide) (t := .long) (t' := .long) (by decide) (by decide)))
  have c29 := c23.other W26 (Or.inr (slot_ne (Or.inr (hw _ (List.mem_of_getElem? (i := 22) rfl))) (Or.inr (hw _ (List.mem_of_getElem? (i := 26) rfl))) (by decide) (t := .long) (t' := .long) (by decide) (by decide)))
  have c30 := Fw19.other W26 (Or.inr (slot_ne (Or.inr (hw _ (List.mem_of_getElem? (i := 24) rfl))) (Or.inr (hw _ (List.mem_of_getElem? (i := 26) rfl))) (by decide) (t := .long) (t' := .long) (by decide) (by decide)))
  have K26 : Keep h0 h26 [a1] := K19.wr W26 (Or.inl (List.mem_of_getElem? (i := 0) rfl))
  have Z26 : n0 ≤ h26.size := Nat.le_trans Z19 (Keep.of_wr W26).1
  have N26 := Fr.snoc X26 N19 g_a1
  have go31 : ∀ t, Steps p.tables e below (T26.setTop (mkF m 26 #[.val (.ref a1), .val (.long q2), .second, .val (.long q3), .second, .val (.long q4), .second, .val (.long q5), .second] [])) t → Steps p.tables e below (s₁.setTop (entryFrame m #[(.ref a1), (.long q2), (.long q3), (.long q4), (.long q5)] 9)) t := fun t k => go25 t (st26 _ k)
  obtain ⟨fs, hr, hrun, hended, hW, hsame⟩ := X26.leave (v := none) (fun _ => rfl)
  refine ⟨_, _, go31 _ ?_, hrun, hended, _, _, rfl, ?_, ⟨_, rfl⟩, hW, hsame.mono (by decide) (by decide)⟩
  · show Steps p.tables e below (T26.setTop (mkF m 26 #[.val (.ref a1), .val (.long q2), .second, .val (.long q3), .second, .val (.long q4), .second, .val (.long q5), .second] [])) _
    exact X26.returnOut hx Bd.returns (hb hby d2_26) hr
  · show Q2 Z a1 q2 q3 q4 q5 u_fromBytes u_fromHash u_bytes u_hash h0 n0 _ T26.heap _
    rw [e26]
    exact ⟨rfl, N26, K26, c27, c28, c29, c30, Fw26⟩
theorem d5_0 : decode prog_29_method_5_code 0 = .ok (.aload_n 0, 1) := by decide +kernel
theorem d5_1 : decode prog_29_method_5_code 1 = .ok (.getfield 18, 3) := by decide +kernel
theorem d5_4 : decode prog_29_method_5_code 4 = .ok (.lload_n 1, 1) := by decide +kernel
theorem d5_5 : decode prog_29_method_5_code 5 = .ok (.lcmp, 1) := by decide +kernel
theorem d5_6 : decode prog_29_method_5_code 6 = .ok (.ifCond .ne 12, 3) := by decide +kernel
theorem d5_9 : decode prog_29_method_5_code 9 = .ok (.aload_n 0, 1) := by decide +kernel
theorem d5_10 : decode prog_29_method_5_code 10 = .ok (.getfield 21, 3) := by decide +kernel
theorem d5_13 : decode prog_29_method_5_code 13 = .ok (.lload_n 3, 1) := by decide +kernel
theorem d5_14 : decode prog_29_method_5_code 14 = .ok (.lcmp, 1) := by decide +kernel
theorem d5_15 : decode prog_29_method_5_code 15 = .ok (.ifCond .eq 21, 3) := by decide +kernel
theorem d5_18 : decode prog_29_method_5_code 18 = .ok (.aload_n 0, 1) := by decide +kernel
theorem d5_19 : decode prog_29_method_5_code 19 = .ok (.getfield 9, 3) := by decide +kernel
theorem d5_22 : decode prog_29_method_5_code 22 = .ok (.lload_n 1, 1) := by decide +kernel
theorem d5_23 : decode prog_29_method_5_code 23 = .ok (.lcmp, 1) := by decide +kernel
theorem d5_24 : decode prog_29_method_5_code 24 = .ok (.ifCond .ne 16, 3) := by decide +kernel
theorem d5_27 : decode prog_29_method_5_code 27 = .ok (.aload_n 0, 1) := by decide +kernel
theorem d5_28 : decode prog_29_method_5_code 28 = .ok (.getfield 15, 3) := by decide +kernel
theorem d5_31 : decode prog_29_method_5_code 31 = .ok (.lload_n 3, 1) := by decide +kernel
theorem d5_32 : decode prog_29_method_5_code 32 = .ok (.lcmp, 1) := by decide +kernel
theorem d5_33 : decode prog_29_method_5_code 33 = .ok (.ifCond .ne 7, 3) := by decide +kernel
theorem d5_36 : decode prog_29_method_5_code 36 = .ok (.iconst 1, 1) := by decide +kernel
theorem d5_37 : decode prog_29_method_5_code 37 = .ok (.goto 4, 3) := by decide +kernel
theorem d5_40 : decode prog_29_method_5_code 40 = .ok (.iconst 0, 1) := by decide +kernel
theorem d5_41 : decode prog_29_method_5_code 41 = .ok (.ireturn, 1) := by decide +kernel
theorem pn_5 : plainName "com/example/scripbook/scripbook/file/RecordMark" = true := by first | (simp [plainName, overriddenIn]; done) | decide +kernel
theorem ef_5 (m : MethodId) (x0 : Addr) (x1 : Int64) (x2 : Int64) : entryFrame m #[(.ref x0), (.long x1), (.long x2)] 5 = mkF m 0 #[.val (.ref x0), .val (.long x1), .second, .val (.long x2), .second] [] := by first | (simp [entryFrame, mkF, argsToLocals, Value.category]; done) | rfl
def Q5 (Z : State) (a1 : Addr) (q2 : Int64) (q3 : Int64) (w_fromBytes : Int64) (w_fromHash : Int64) (w_bytes : Int64) (w_hash : Int64) (h0 : Heap) (n0 : Nat) (v : Option Value) (h : Heap) (L : List Loc) : Prop := v = some (.int (own_sf w_fromBytes w_fromHash w_bytes w_hash q2 q3)) ∧ Fr n0 L ∧ h = h0
set_option maxRecDepth 65536 in
set_option maxHeartbeats 40000000 in
theorem rm5 (l : Launch) (Z : State) (a0 : Array Value) (hw : ∀ d ∈ tables_1, d.before a0 Z = true) (ws : List Jvm.Cond) (a1 : Addr) (q2 : Int64) (q3 : Int64) (w_fromBytes : Int64) (w_fromHash : Int64) (w_bytes : Int64) (w_hash : Int64) (h0 : Heap) (n0 : Nat) (Z0 : n0 ≤ h0.size) (F_fromBytes : Fld Z h0 a1 "com/example/scripbook/scripbook/file/RecordMark" "fromBytes" "J" (.long w_fromBytes)) (F_fromHash : Fld Z h0 a1 "com/example/scripbook/scripbook/file/RecordMark" "fromHash" "J" (.long w_fromHash)) (F_bytes : Fld Z h0 a1 "com/example/scripbook/scripbook/file/RecordMark" "bytes" "J" (.long w_bytes)) (F_hash : Fld Z h0 a1 "com/example/scripbook/scripbook/file/RecordMark" "hash" "J" (.long w_hash)) :
    MetFree l (⟨"com/example/scripbook/scripbook/file/RecordMark", "standsFor", "(JJ)Z"⟩ : MethodName) (head1 (Jvm.Cond.code (⟨"com/example/scripbook/scripbook/file/RecordMark", "standsFor", "(JJ)Z"⟩ : MethodName) prog_29_method_5_code 5 (some .boolean) :: ws) ({ frames := 0, cells := 0, slots := 0, locals := 0 } : Room)) (fun a U => a = #[(.ref a1), (.long q2), (.long q3)] ∧ Z.Warmed39 U.vm ∧ U.heap = h0) (fun _ _ _ _ _ => True) (fun _ U o U' => ∃ v L, o = .returned v ∧ Q5 Z a1 q2 q3 w_fromBytes w_fromHash w_bytes w_hash h0 n0 v U'.heap L ∧ FrameEnd U o U' L ({ frames := 0, cells := 0, slots := 0, locals := 0 } : Room).cells ({ frames := 0, cells := 0, slots := 0, locals := 0 } : Room).slots) := by
  refine MetFree.of_bodySF (plainFor_of_name pn_5) hisR ?_
  intro p e s m args below meth c s₁ Bd hml0 hP hK
  obtain ⟨rfl, hZ, hh⟩ := hP
  have hx := Bd.exec
  have hby := Bd.bytes
  have hml : c.maxLocals = 5 := hml0
  have hown : s.vm.findClass "com/example/scripbook/scripbook/file/RecordMark" = some m.cls := findClass_of_methodNamed Bd.named
  have hnm := (name_of_methodNamed Bd.named Bd.method).1
  have X0 : Stand p l e ({ frames := 0, cells := 0, slots := 0, locals := 0 } : Room) s m #[(.ref a1), (.long q2), (.long q3)] below meth c s₁ [] 0 0 := Stand.of_body Bd
  have e0 : s₁.heap = h0 := by rw [← hh, Bd.state]; rfl
  have N0 := Fr.nil n0
  have go0 : ∀ t, Steps p.tables e below (s₁.setTop (mkF m 0 #[.val (.ref a1), .val (.long q2), .second, .val (.long q3), .second] [])) t → Steps p.tables e below (s₁.setTop (entryFrame m #[(.ref a1), (.long q2), (.long q3)] 5)) t := fun t k => castTop (ef_5 m a1 q2 q3) k
  have go1 : ∀ t, Steps p.tables e below (s₁.setTop (mkF m 1 #[.val (.ref a1), .val (.long q2), .second, .val (.long q3), .second] [(.ref a1)])) t → Steps p.tables e below (s₁.setTop (entryFrame m #[(.ref a1), (.long q2), (.long q3)] 5)) t := by
    intro t k
    refine go0 t ?_
    show Steps p.tables e below (s₁.setTop (mkF m 0 #[.val (.ref a1), .val (.long q2), .second, .val (.long q3), .second] [])) _
    refine XS.aloadN X0.here hx rfl (hb hby d5_0) rfl rfl ?_
    exact k
  obtain ⟨T2, X2, e2, st2⟩ := getF X0 hx hZ hown (host := "") (Or.inl (hw _ (List.mem_of_getElem? (i := 23) rfl))) Via.refl e0 F_bytes (g := (mkF m 1 #[.val (.ref a1), .val (.long q2), .second, .val (.long q3), .second] [(.ref a1)])) rfl rfl (hb hby d5_1)
  have go3 : ∀ t, Steps p.tables e below (T2.setTop (mkF m 4 #[.val (.ref a1), .val (.long q2), .second, .val (.long q3), .second] [(.long w_bytes)])) t → Steps p.tables e below (s₁.setTop (entryFrame m #[(.ref a1), (.long q2), (.long q3)] 5)) t := fun t k => go1 t (st2 _ k)
  have go4 : ∀ t, Steps p.tables e below (T2.setTop (mkF m 6 #[.val (.ref a1), .val (.long q2), .second, .val (.long q3), .second] [(.int (lcmpW w_bytes q2))])) t → Steps p.tables e below (s₁.setTop (entryFrame m #[(.ref a1), (.long q2), (.long q3)] 5)) t := by
    intro t k
    refine go3 t ?_
    show Steps p.tables e below (T2.setTop (mkF m 4 #[.val (.ref a1), .val (.long q2), .second, .val (.long q3), .second] [(.long w_bytes)])) _
    refine XS.lloadN X2.here hx rfl (hb hby d5_4) rfl ?_
    show Steps p.tables e below (T2.setTop (mkF m 5 #[.val (.ref a1), .val (.long q2), .second, .val (.long q3), .second] [(.long q2), (.long w_bytes)])) _
    refine XS.lcmp X2.here hx rfl (hb hby d5_5) rfl ?_
    exact k
  by_cases hc6 : (lcmpW w_bytes q2) = (0 : Int32)
  · skip
    have go5 : ∀ t, Steps p.tables e below (T2.setTop (mkF m 10 #[.val (.ref a1), .val (.long q2), .second, .val (.long q3), .second] [(.ref a1)])) t → Steps p.tables e below (s₁.setTop (entryFrame m #[(.ref a1), (.long q2), (.long q3)] 5)) t := by
      intro t k
      refine go4 t ?_
      show Steps p.tables e below (T2.setTop (mkF m 6 #[.val (.ref a1), .val (.long q2), .second, .val (.long q3), .second] [(.int (lcmpW w_bytes q2))])) _
      refine XS.ifNo X2.here hx rfl (hb hby d5_6) rfl ((if0 _ _).trans (teq hc6).2) ?_
      show Steps p.tables e below (T2.setTop (mkF m 9 #[.val (.ref a1), .val (.long q2), .second, .val (.long q3), .second] [])) _
      refine XS.aloadN X2.here hx rfl (hb hby d5_9) rfl rfl ?_
      exact k
    obtain ⟨T6, X6, e6, st6⟩ := getF X2 hx hZ hown (host := "") (Or.inl (hw _ (List.mem_of_getElem? (i := 25) rfl))) Via.refl e2 F_hash (g := (mkF m 10 #[.val (.ref a1), .val (.long q2), .second, .val (.long q3), .second] [(.ref a1)])) rfl rfl (hb hby d5_10)
    have go7 : ∀ t, Steps p.tables e below (T6.setTop (mkF m 13 #[.val (.ref a1), .val (.long q2), .second, .val (.long q3), .second] [(.long w_hash)])) t → Steps p.tables e below (s₁.setTop (entryFrame m #[(.ref a1), (.long q2), (.long q3)] 5)) t := fun t k => go5 t (st6 _ k)
    have go8 : ∀ t, Steps p.tables e below (T6.setTop (mkF m 15 #[.val (.ref a1), .val (.long q2), .second, .val (.long q3), .second] [(.int (lcmpW w_hash q3))])) t → Steps p.tables e below (s₁.setTop (entryFrame m #[(.ref a1), (.long q2), (.long q3)] 5)) t := by
      intro t k
      refine go7 t ?_
      show Steps p.tables e below (T6.setTop (mkF m 13 #[.val (.ref a1), .val (.long q2), .second, .val (.long q3), .second] [(.long w_hash)])) _
      refine XS.lloadN X6.here hx rfl (hb hby d5_13) rfl ?_
      show Steps p.tables e below (T6.setTop (mkF m 14 #[.val (.ref a1), .val (.long q2), .second, .val (.long q3), .second] [(.long q3), (.long w_hash)])) _
      refine XS.lcmp X6.here hx rfl (hb hby d5_14) rfl ?_
      exact k
    by_cases hc15 : (lcmpW w_hash q3) = (0 : Int32)
    · skip
      have go9 : ∀ t, Steps p.tables e below (T6.setTop (mkF m 41 #[.val (.ref a1), .val (.long q2), .second, .val (.long q3), .second] [(.int (1 : Int32))])) t → Steps p.tables e below (s₁.setTop (entryFrame m #[(.ref a1), (.long q2), (.long q3)] 5)) t := by
        intro t k
        refine go8 t ?_
        show Steps p.tables e below (T6.setTop (mkF m 15 #[.val (.ref a1), .val (.long q2), .second, .val (.long q3), .second] [(.int (lcmpW w_hash q3))])) _
        refine XS.ifYes X6.here hx rfl (pc0 := 15) (pc' := 36) rfl (hb hby d5_15) rfl ((if0 _ _).trans (teq hc15).1) (by decide) (by decide) ?_
        show Steps p.tables e below (T6.setTop (mkF m 36 #[.val (.ref a1), .val (.long q2), .second, .val (.long q3), .second] [])) _
        refine XS.iconst X6.here hx rfl (hb hby d5_36) ?_
        show Steps p.tables e below (T6.setTop (mkF m 37 #[.val (.ref a1), .val (.long q2), .second, .val (.long q3), .second] [(.int (1 : Int32))])) _
        refine XS.goto X6.here hx rfl (pc0 := 37) (pc' := 41) rfl (hb hby d5_37) (by decide) (by decide) ?_
        exact k
      obtain ⟨fs, hr, hrun, hended, hW, hsame⟩ := X6.leave (v := some (.int (1 : Int32))) (fun h => by rw [Bd.returns] at h; cases h)
      refine ⟨_, _, go9 _ ?_, hrun, hended, _, _, rfl, ?_, ⟨_, rfl⟩, hW, hsame.mono (by decide) (by decide)⟩
      · show Steps p.tables e below (T6.setTop (mkF m 41 #[.val (.ref a1), .val (.long q2), .second, .val (.long q3), .second] [(.int (1 : Int32))])) _
        exact retN X6 hx (t := .boolean) Bd.returns (by simp) (hb hby d5_41) hr
      · show Q5 Z a1 q2 q3 w_fromBytes w_fromHash w_bytes w_hash h0 n0 _ T6.heap _
        rw [e6]
        exact ⟨by simp [own_sf, (lw_eq _ _).mp hc6, (lw_eq _ _).mp hc15], N0, rfl⟩
    · skip
      have go10 : ∀ t, Steps p.tables e below (T6.setTop (mkF m 19 #[.val (.ref a1), .val (.long q2), .second, .val (.long q3), .second] [(.ref a1)])) t → Steps p.tables e below (s₁.setTop (entryFrame m #[(.ref a1), (.long q2), (.long q3)] 5)) t := by
        intro t k
        refine go8 t ?_
        show Steps p.tables e below (T6.setTop (mkF m 15 #[.val (.ref a1), .val (.long q2), .second, .val (.long q3), .second] [(.int (lcmpW w_hash q3))])) _
        refine XS.ifNo X6.here hx rfl (hb hby d5_15) rfl ((if0 _ _).trans (feq hc15).1) ?_
        show Steps p.tables e below (T6.setTop (mkF m 18 #[.val (.ref a1), .val (.long q2), .second, .val (.long q3), .second] [])) _
        refine XS.aloadN X6.here hx rfl (hb hby d5_18) rfl rfl ?_
        exact k
      obtain ⟨T11, X11, e11, st11⟩ := getF X6 hx hZ hown (host := "") (Or.inl (hw _ (List.mem_of_getElem? (i := 19) rfl))) Via.refl e6 F_fromBytes (g := (mkF m 19 #[.val (.ref a1), .val (.long q2), .second, .val (.long q3), .second] [(.ref a1)])) rfl rfl (hb hby d5_19)
      have go12 : ∀ t, Steps p.tables e below (T11.setTop (mkF m 22 #[.val (.ref a1), .val (.long q2), .second, .val (.long q3), .second] [(.long w_fromBytes)])) t → Steps p.tables e below (s₁.setTop (entryFrame m #[(.ref a1), (.long q2), (.long q3)] 5)) t := fun t k => go10 t (st11 _ k)
      have go13 : ∀ t, Steps p.tables e below (T11.setTop (mkF m 24 #[.val (.ref a1), .val (.long q2), .second, .val (.long q3), .second] [(.int (lcmpW w_fromBytes q2))])) t → Steps p.tables e below (s₁.setTop (entryFrame m #[(.ref a1), (.long q2), (.long q3)] 5)) t := by
        intro t k
        refine go12 t ?_
        show Steps p.tables e below (T11.setTop (mkF m 22 #[.val (.ref a1), .val (.long q2), .second, .val (.long q3), .second] [(.long w_fromBytes)])) _
        refine XS.lloadN X11.here hx rfl (hb hby d5_22) rfl ?_
        show Steps p.tables e below (T11.setTop (mkF m 23 #[.val (.ref a1), .val (.long q2), .second, .val (.long q3), .second] [(.long q2), (.long w_fromBytes)])) _
        refine XS.lcmp X11.here hx rfl (hb hby d5_23) rfl ?_
        exact k
      by_cases hc24 : (lcmpW w_fromBytes q2) = (0 : Int32)
      · skip
        have go14 : ∀ t, Steps p.tables e below (T11.setTop (mkF m 28 #[.val (.ref a1), .val (.long q2), .second, .val (.long q3), .second] [(.ref a1)])) t → Steps p.tables e below (s₁.setTop (entryFrame m #[(.ref a1), (.long q2), (.long q3)] 5)) t := by
          intro t k
          refine go13 t ?_
          show Steps p.tables e below (T11.setTop (mkF m 24 #[.val (.ref a1), .val (.long q2), .second, .val (.long q3), .second] [(.int (lcmpW w_fromBytes q2))])) _
          refine XS.ifNo X11.here hx rfl (hb hby d5_24) rfl ((if0 _ _).trans (teq hc24).2) ?_
          show Steps p.tables e below (T11.setTop (mkF m 27 #[.val (.ref a1), .val (.long q2), .second, .val (.long q3), .second] [])) _
          refine XS.aloadN X11.here hx rfl (hb hby d5_27) rfl rfl ?_
          exact k
        obtain ⟨T15, X15, e15, st15⟩ := getF X11 hx hZ hown (host := "") (Or.inl (hw _ (List.mem_of_getElem? (i := 21) rfl))) Via.refl e11 F_fromHash (g := (mkF m 28 #[.val (.ref a1), .val (.long q2), .second, .val (.long q3), .second] [(.ref a1)])) rfl rfl (hb hby d5_28)
        have go16 : ∀ t, Steps p.tables e below (T15.setTop (mkF m 31 #[.val (.ref a1), .val (.long q2), .second, .val (.long q3), .second] [(.long w_fromHash)])) t → Steps p.tables e below (s₁.setTop (entryFrame m #[(.ref a1), (.long q2), (.long q3)] 5)) t := fun t k => go14 t (st15 _ k)
        have go17 : ∀ t, Steps p.tables e below (T15.setTop (mkF m 33 #[.val (.ref a1), .val (.long q2), .second, .val (.long q3), .second] [(.int (lcmpW w_fromHash q3))])) t → Steps p.tables e below (s₁.setTop (entryFrame m #[(.ref a1), (.long q2), (.long q3)] 5)) t := by
          intro t k
          refine go16 t ?_
          show Steps p.tables e below (T15.setTop (mkF m 31 #[.val (.ref a1), .val (.long q2), .second, .val (.long q3), .second] [(.long w_fromHash)])) _
          refine XS.lloadN X15.here hx rfl (hb hby d5_31) rfl ?_
          show Steps p.tables e below (T15.setTop (mkF m 32 #[.val (.ref a1), .val (.long q2), .second, .val (.long q3), .second] [(.long q3), (.long w_fromHash)])) _
          refine XS.lcmp X15.here hx rfl (hb hby d5_32) rfl ?_
          exact k
        by_cases hc33 : (lcmpW w_fromHash q3) = (0 : Int32)
        · skip
          have go18 : ∀ t, Steps p.tables e below (T15.setTop (mkF m 41 #[.val (.ref a1), .val (.long q2), .second, .val (.long q3), .second] [(.int (1 : Int32))])) t → Steps p.tables e below (s₁.setTop (entryFrame m #[(.ref a1), (.long q2), (.long q3)] 5)) t := by
            intro t k
            refine go17 t ?_
            show Steps p.tables e below (T15.setTop (mkF m 33 #[.val (.ref a1), .val (.long q2), .second, .val (.long q3), .second] [(.int (lcmpW w_fromHash q3))])) _
            refine XS.ifNo X15.here hx rfl (hb hby d5_33) rfl ((if0 _ _).trans (teq hc33).2) ?_
            show Steps p.tables e below (T15.setTop (mkF m 36 #[.val (.ref a1), .val (.long q2), .second, .val (.long q3), .second] [])) _
            refine XS.iconst X15.here hx rfl (hb hby d5_36) ?_
            show Steps p.tables e below (T15.setTop (mkF m 37 #[.val (.ref a1), .val (.long q2), .second, .val (.long q3), .second] [(.int (1 : Int32))])) _
            refine XS.goto X15.here hx rfl (pc0 := 37) (pc' := 41) rfl (hb hby d5_37) (by decide) (by decide) ?_
            exact k
          obtain ⟨fs, hr, hrun, hended, hW, hsame⟩ := X15.leave (v := some (.int (1 : Int32))) (fun h => by rw [Bd.returns] at h; cases h)
          refine ⟨_, _, go18 _ ?_, hrun, hended, _, _, rfl, ?_, ⟨_, rfl⟩, hW, hsame.mono (by decide) (by decide)⟩
          · show Steps p.tables e below (T15.setTop (mkF m 41 #[.val (.ref a1), .val (.long q2), .second, .val (.long q3), .second] [(.int (1 : Int32))])) _
            exact retN X15 hx (t := .boolean) Bd.returns (by simp) (hb hby d5_41) hr
          · show Q5 Z a1 q2 q3 w_fromBytes w_fromHash w_bytes w_hash h0 n0 _ T15.heap _
            rw [e15]
            exact ⟨by simp [own_sf, (lw_eq _ _).mp hc6, mt (lw_eq _ _).mpr hc15, (lw_eq _ _).mp hc24, (lw_eq _ _).mp hc33], N0, rfl⟩
        · skip
          have go19 : ∀ t, Steps p.tables e below (T15.setTop (mkF m 41 #[.val (.ref a1), .val (.long q2), .second, .val (.long q3), .second] [(.int (0 : Int32))])) t → Steps p.tables e below (s₁.setTop (entryFrame m #[(.ref a1), (.long q2), (.long q3)] 5)) t := by
            intro t k
            refine go17 t ?_
            show Steps p.tables e below (T15.setTop (mkF m 33 #[.val (.ref a1), .val (.long q2), .second, .val (.long q3), .second] [(.int (lcmpW w_fromHash q3))])) _
            refine XS.ifYes X15.here hx rfl (pc0 := 33) (pc' := 40) rfl (hb hby d5_33) rfl ((if0 _ _).trans (feq hc33).2) (by decide) (by decide) ?_
            show Steps p.tables e below (T15.setTop (mkF m 40 #[.val (.ref a1), .val (.long q2), .second, .val (.long q3), .second] [])) _
            refine XS.iconst X15.here hx rfl (hb hby d5_40) ?_
            exact k
          obtain ⟨fs, hr, hrun, hended, hW, hsame⟩ := X15.leave (v := some (.int (0 : Int32))) (fun h => by rw [Bd.returns] at h; cases h)
          refine ⟨_, _, go19 _ ?_, hrun, hended, _, _, rfl, ?_, ⟨_, rfl⟩, hW, hsame.mono (by decide) (by decide)⟩
          · show Steps p.tables e below (T15.setTop (mkF m 41 #[.val (.ref a1), .val (.long q2), .second, .val (.long q3), .second] [(.int (0 : Int32))])) _
            exact retN X15 hx (t := .boolean) Bd.returns (by simp) (hb hby d5_41) hr
          · show Q5 Z a1 q2 q3 w_fromBytes w_fromHash w_bytes w_hash h0 n0 _ T15.heap _
            rw [e15]
            exact ⟨by simp [own_sf, (lw_eq _ _).mp hc6, mt (lw_eq _ _).mpr hc15, (lw_eq _ _).mp hc24, mt (lw_eq _ _).mpr hc33], N0, rfl⟩
      · skip
        have go20 : ∀ t, Steps p.tables e below (T11.setTop (mkF m 41 #[.val (.ref a1), .val (.long q2), .second, .val (.long q3), .second] [(.int (0 : Int32))])) t → Steps p.tables e below (s₁.setTop (entryFrame m #[(.ref a1), (.long q2), (.long q3)] 5)) t := by
          intro t k
          refine go13 t ?_
          show Steps p.tables e below (T11.setTop (mkF m 24 #[.val (.ref a1), .val (.long q2), .second, .val (.long q3), .second] [(.int (lcmpW w_fromBytes q2))])) _
          refine XS.ifYes X11.here hx rfl (pc0 := 24) (pc' := 40) rfl (hb hby d5_24) rfl ((if0 _ _).trans (feq hc24).2) (by decide) (by decide) ?_
          show Steps p.tables e below (T11.setTop (mkF m 40 #[.val (.ref a1), .val (.long q2), .second, .val (.long q3), .second] [])) _
          refine XS.iconst X11.here hx rfl (hb hby d5_40) ?_
          exact k
        obtain ⟨fs, hr, hrun, hended, hW, hsame⟩ := X11.leave (v := some (.int (0 : Int32))) (fun h => by rw [Bd.returns] at h; cases h)
        refine ⟨_, _, go20 _ ?_, hrun, hended, _, _, rfl, ?_, ⟨_, rfl⟩, hW, hsame.mono (by decide) (by decide)⟩
        · show Steps p.tables e below (T11.setTop (mkF m 41 #[.val (.ref a1), .val (.long q2), .second, .val (.long q3), .second] [(.int (0 : Int32))])) _
          exact retN X11 hx (t := .boolean) Bd.returns (by simp) (hb hby d5_41) hr
        · show Q5 Z a1 q2 q3 w_fromBytes w_fromHash w_bytes w_hash h0 n0 _ T11.heap _
          rw [e11]
          exact ⟨by simp [own_sf, (lw_eq _ _).mp hc6, mt (lw_eq _ _).mpr hc15, mt (lw_eq _ _).mpr hc24], N0, rfl⟩
  · skip
    have go21 : ∀ t, Steps p.tables e below (T2.setTop (mkF m 19 #[.val (.ref a1), .val (.long q2), .second, .val (.long q3), .second] [(.ref a1)])) t → Steps p.tables e below (s₁.setTop (entryFrame m #[(.ref a1), (.long q2), (.long q3)] 5)) t := by
      intro t k
      refine go4 t ?_
      show Steps p.tables e below (T2.setTop (mkF m 6 #[.val (.ref a1), .val (.long q2), .second, .val (.long q3), .second] [(.int (lcmpW w_bytes q2))])) _
      refine XS.ifYes X2.here hx rfl (pc0 := 6) (pc' := 18) rfl (hb hby d5_6) rfl ((if0 _ _).trans (feq hc6).2) (by decide) (by decide) ?_
      show Steps p.tables e below (T2.setTop (mkF m 18 #[.val (.ref a1), .val (.long q2), .second, .val (.long q3), .second] [])) _
      refine XS.aloadN X2.here hx rfl (hb hby d5_18) rfl rfl ?_
      exact k
    obtain ⟨T22, X22, e22, st22⟩ := getF X2 hx hZ hown (host := "") (Or.inl (hw _ (List.mem_of_getElem? (i := 19) rfl))) Via.refl e2 F_fromBytes (g := (mkF m 19 #[.val (.ref a1), .val (.long q2), .second, .val (.long q3), .second] [(.ref a1)])) rfl rfl (hb hby d5_19)
    have go23 : ∀ t, Steps p.tables e below (T22.setTop (mkF m 22 #[.val (.ref a1), .val (.long q2), .second, .val (.long q3), .second] [(.long w_fromBytes)])) t → Steps p.tables e below (s₁.setTop (entryFrame m #[(.ref a1), (.long q2), (.long q3)] 5)) t := fun t k => go21 t (st22 _ k)
    have go24 : ∀ t, Steps p.tables e below (T22.setTop (mkF m 24 #[.val (.ref a1), .val (.long q2), .second, .val (.long q3), .second] [(.int (lcmpW w_fromBytes q2))])) t → Steps p.tables e below (s₁.setTop (entryFrame m #[(.ref a1), (.long q2), (.long q3)] 5)) t := by
      intro t k
      refine go23 t ?_
      show Steps p.tables e below (T22.setTop (mkF m 22 #[.val (.ref a1), .val (.long q2), .second, .val (.long q3), .second] [(.long w_fromBytes)])) _
      refine XS.lloadN X22.here hx rfl (hb hby d5_22) rfl ?_
      show Steps p.tables e below (T22.setTop (mkF m 23 #[.val (.ref a1), .val (.long q2), .second, .val (.long q3), .second] [(.long q2), (.long w_fromBytes)])) _
      refine XS.lcmp X22.here hx rfl (hb hby d5_23) rfl ?_
      exact k
    by_cases hc24 : (lcmpW w_fromBytes q2) = (0 : Int32)
    · skip
      have go25 : ∀ t, Steps p.tables e below (T22.setTop (mkF m 28 #[.val (.ref a1), .val (.long q2), .second, .val (.long q3), .second] [(.ref a1)])) t → Steps p.tables e below (s₁.setTop (entryFrame m #[(.ref a1), (.long q2), (.long q3)] 5)) t := by
        intro t k
        refine go24 t ?_
        show Steps p.tables e below (T22.setTop (mkF m 24 #[.val (.ref a1), .val (.long q2), .second, .val (.long q3), .second] [(.int (lcmpW w_fromBytes q2))])) _
        refine XS.ifNo X22.here hx rfl (hb hby d5_24) rfl ((if0 _ _).trans (teq hc24).2) ?_
        show Steps p.tables e below (T22.setTop (mkF m 27 #[.val (.ref a1), .val (.long q2), .second, .val (.long q3), .second] [])) _
        refine XS.aloadN X22.here hx rfl (hb hby d5_27) rfl rfl ?_
        exact k
      obtain ⟨T26, X26, e26, st26⟩ := getF X22 hx hZ hown (host := "") (Or.inl (hw _ (List.mem_of_getElem? (i := 21) rfl))) Via.refl e22 F_fromHash (g := (mkF m 28 #[.val (.ref a1), .val (.long q2), .second, .val (.long q3), .second] [(.ref a1)])) rfl rfl (hb hby d5_28)
      have go27 : ∀ t, Steps p.tables e below (T26.setTop (mkF m 31 #[.val (.ref a1), .val (.long q2), .second, .val (.long q3), .second] [(.long w_fromHash)])) t → Steps p.tables e below (s₁.setTop (entryFrame m #[(.ref a1), (.long q2), (.long q3)] 5)) t := fun t k => go25 t (st26 _ k)
      have go28 : ∀ t, Steps p.tables e below (T26.setTop (mkF m 33 #[.val (.ref a1), .val (.long q2), .second, .val (.long q3), .second] [(.int (lcmpW w_fromHash q3))])) t → Steps p.tables e below (s₁.setTop (entryFrame m #[(.ref a1), (.long q2), (.long q3)] 5)) t := by
        intro t k
        refine go27 t ?_
        show Steps p.tables e below (T26.setTop (mkF m 31 #[.val (.ref a1), .val (.long q2), .second, .val (.long q3), .second] [(.long w_fromHash)])) _
        refine XS.lloadN X26.here hx rfl (hb hby d5_31) rfl ?_
        show Steps p.tables e below (T26.setTop (mkF m 32 #[.val (.ref a1), .val (.long q2), .second, .val (.long q3), .second] [(.long q3), (.long w_fromHash)])) _
        refine XS.lcmp X26.here hx rfl (hb hby d5_32) rfl ?_
        exact k
      by_cases hc33 : (lcmpW w_fromHash q3) = (0 : Int32)
      · skip
        have go29 : ∀ t, Steps p.tables e below (T26.setTop (mkF m 41 #[.val (.ref a1), .val (.long q2), .second, .val (.long q3), .second] [(.int (1 : Int32))])) t → Steps p.tables e below (s₁.setTop (entryFrame m #[(.ref a1), (.long q2), (.long q3)] 5)) t := by
          intro t k
          refine go28 t ?_
          show Steps p.tables e below (T26.setTop (mkF m 33 #[.val (.ref a1), .val (.long q2), .second, .val (.long q3), .second] [(.int (lcmpW w_fromHash q3))])) _
          refine XS.ifNo X26.here hx rfl (hb hby d5_33) rfl ((if0 _ _).trans (teq hc33).2) ?_
          show Steps p.tables e below (T26.setTop (mkF m 36 #[.val (.ref a1), .val (.long q2), .second, .val (.long q3), .second] [])) _
          refine XS.iconst X26.here hx rfl (hb hby d5_36) ?_
          show Steps p.tables e below (T26.setTop (mkF m 37 #[.val (.ref a1), .val (.long q2), .second, .val (.long q3), .second] [(.int (1 : Int32))])) _
          refine XS.goto X26.here hx rfl (pc0 := 37) (pc' := 41) rfl (hb hby d5_37) (by decide) (by decide) ?_
          exact k
        obtain ⟨fs, hr, hrun, hended, hW, hsame⟩ := X26.leave (v := some (.int (1 : Int32))) (fun h => by rw [Bd.returns] at h; cases h)
        refine ⟨_, _, go29 _ ?_, hrun, hended, _, _, rfl, ?_, ⟨_, rfl⟩, hW, hsame.mono (by decide) (by decide)⟩
        · show Steps p.tables e below (T26.setTop (mkF m 41 #[.val (.ref a1), .val (.long q2), .second, .val (.long q3), .second] [(.int (1 : Int32))])) _
          exact retN X26 hx (t := .boolean) Bd.returns (by simp) (hb hby d5_41) hr
        · show Q5 Z a1 q2 q3 w_fromBytes w_fromHash w_bytes w_hash h0 n0 _ T26.heap _
          rw [e26]
          exact ⟨by simp [own_sf, mt (lw_eq _ _).mpr hc6, (lw_eq _ _).mp hc24, (lw_eq _ _).mp hc33], N0, rfl⟩
      · skip
        have go30 : ∀ t, Steps p.tables e below (T26.setTop (mkF m 41 #[.val (.ref a1), .val (.long q2), .second, .val (.long q3), .second] [(.int (0 : Int32))])) t → Steps p.tables e below (s₁.setTop (entryFrame m #[(.ref a1), (.long q2), (.long q3)] 5)) t := by
          intro t k
          refine go28 t ?_
          show Steps p.tables e below (T26.setTop (mkF m 33 #[.val (.ref a1), .val (.long q2), .second, .val (.long q3), .second] [(.int (lcmpW w_fromHash q3))])) _
          refine XS.ifYes X26.here hx rfl (pc0 := 33) (pc' := 40) rfl (hb hby d5_33) rfl ((if0 _ _).trans (feq hc33).2) (by decide) (by decide) ?_
          show Steps p.tables e below (T26.setTop (mkF m 40 #[.val (.ref a1), .val (.long q2), .second, .val (.long q3), .second] [])) _
          refine XS.iconst X26.here hx rfl (hb hby d5_40) ?_
          exact k
        obtain ⟨fs, hr, hrun, hended, hW, hsame⟩ := X26.leave (v := some (.int (0 : Int32))) (fun h => by rw [Bd.returns] at h; cases h)
        refine ⟨_, _, go30 _ ?_, hrun, hended, _, _, rfl, ?_, ⟨_, rfl⟩, hW, hsame.mono (by decide) (by decide)⟩
        · show Steps p.tables e below (T26.setTop (mkF m 41 #[.val (.ref a1), .val (.long q2), .second, .val (.long q3), .second] [(.int (0 : Int32))])) _
          exact retN X26 hx (t := .boolean) Bd.returns (by simp) (hb hby d5_41) hr
        · show Q5 Z a1 q2 q3 w_fromBytes w_fromHash w_bytes w_hash h0 n0 _ T26.heap _
          rw [e26]
          exact ⟨by simp [own_sf, mt (lw_eq _ _).mpr hc6, (lw_eq _ _).mp hc24, mt (lw_eq _ _).mpr hc33], N0, rfl⟩
    · skip
      have go31 : ∀ t, Steps p.tables e below (T22.setTop (mkF m 41 #[.val (.ref a1), .val (.long q2), .second, .val (.long q3), .second] [(.int (0 : Int32))])) t → Steps p.tables e below (s₁.setTop (entryFrame m #[(.ref a1), (.long q2), (.long q3)] 5)) t := by
        intro t k
        refine go24 t ?_
        show Steps p.tables e below (T22.setTop (mkF m 24 #[.val (.ref a1), .val (.long q2), .second, .val (.long q3), .second] [(.int (lcmpW w_fromBytes q2))])) _
        refine XS.ifYes X22.here hx rfl (pc0 := 24) (pc' := 40) rfl (hb hby d5_24) rfl ((if0 _ _).trans (feq hc24).2) (by decide) (by decide) ?_
        show Steps p.tables e below (T22.setTop (mkF m 40 #[.val (.ref a1), .val (.long q2), .second, .val (.long q3), .second] [])) _
        refine XS.iconst X22.here hx rfl (hb hby d5_40) ?_
        exact k
      obtain ⟨fs, hr, hrun, hended, hW, hsame⟩ := X22.leave (v := some (.int (0 : Int32))) (fun h => by rw [Bd.returns] at h; cases h)
      refine ⟨_, _, go31 _ ?_, hrun, hended, _, _, rfl, ?_, ⟨_, rfl⟩, hW, hsame.mono (by decide) (by decide)⟩
      · show Steps p.tables e below (T22.setTop (mkF m 41 #[.val (.ref a1), .val (.long q2), .second, .val (.long q3), .second] [(.int (0 : Int32))])) _
        exact retN X22 hx (t := .boolean) Bd.returns (by simp) (hb hby d5_41) hr
      · show Q5 Z a1 q2 q3 w_fromBytes w_fromHash w_bytes w_hash h0 n0 _ T22.heap _
        rw [e22]
        exact ⟨by simp [own_sf, mt (lw_eq _ _).mpr hc6, mt (lw_eq _ _).mpr hc24], N0, rfl⟩
theorem pd_0_0 : parseMethodDescriptor "(IJJI)J" = some ⟨[.int, .long, .long, .int], some .long⟩ := by decide +kernel
theorem pd_0_1 : parseMethodDescriptor "(JJJJ)V" = some ⟨[.long, .long, .long, .long], none⟩ := by decide +kernel
theorem pd_0_2 : parseMethodDescriptor "(JJ)Z" = some ⟨[.long, .long], some .boolean⟩ := by decide +kernel
theorem pn_0 : plainName "com/example/scripbook/scripbook/file/RecordMarkStandsForPinLaw" = true := by first | (simp [plainName, overriddenIn]; done) | decide +kernel
theorem ef_0 (m : MethodId) (x0 : Int64) (x1 : Int64) (x2 : Int64) (x3 : Int64) (x4 : Int64) (x5 : Int32) : entryFrame m #[(.long x0), (.long x1), (.long x2), (.long x3), (.long x4), (.int x5)] maxLocals = mkF m 0 #[.val (.long x0), .second, .val (.long x1), .second, .val (.long x2), .second, .val (.long x3), .second, .val (.long x4), .second, .val (.int x5), .unset, .unset, .unset, .unset, .unset, .unset, .unset] [] := by first | (simp [entryFrame, mkF, argsToLocals, Value.category, maxLocals]; done) | rfl
def Q0 (Z : State) (pp : Int64) (qq : Int64) (db : Int64) (dh : Int64) (fr : Int64) (sel : Int32) (h0 : Heap) (n0 : Nat) (v : Option Value) (h : Heap) (L : List Loc) : Prop := v = some (.int (1 : Int32)) ∧ Fr n0 L
set_option maxRecDepth 65536 in
set_option maxHeartbeats 40000000 in
theorem rm0 (l : Launch) (Z : State) (a0 : Array Value) (hw : ∀ d ∈ tables_1, d.before a0 Z = true) (ws : List Jvm.Cond) (pp : Int64) (qq : Int64) (db : Int64) (dh : Int64) (fr : Int64) (sel : Int32) (h0 : Heap) (n0 : Nat) (Z0 : n0 ≤ h0.size) :
    MetFree l x (head1 (Jvm.Cond.code x code maxLocals ret :: ws) room_1) (fun a U => a = #[(.long pp), (.long qq), (.long db), (.long dh), (.long fr), (.int sel)] ∧ Z.Warmed39 U.vm ∧ U.heap = h0) (fun _ _ _ _ _ => True) (fun _ U o U' => ∃ v L, o = .returned v ∧ Q0 Z pp qq db dh fr sel h0 n0 v U'.heap L ∧ FrameEnd U o U' L room_1.cells room_1.slots) := by
  refine MetFree.of_bodySF (plainFor_of_name pn_0) hisR ?_
  intro p e s m args below meth c s₁ Bd hml0 hP hK
  obtain ⟨rfl, hZ, hh⟩ := hP
  have hx := Bd.exec
  have hby := Bd.bytes
  have hml : c.maxLocals = 18 := hml0
  have hown : s.vm.findClass "com/example/scripbook/scripbook/file/RecordMarkStandsForPinLaw" = some m.cls := findClass_of_methodNamed Bd.named
  have hnm := (name_of_methodNamed Bd.named Bd.method).1
  have X0 : Stand p l e room_1 s m #[(.long pp), (.long qq), (.long db), (.long dh), (.long fr), (.int sel)] below meth c s₁ [] 0 0 := Stand.of_body Bd
  have e0 : s₁.heap = h0 := by rw [← hh, Bd.state]; rfl
  have N0 := Fr.nil n0
  have go0 : ∀ t, Steps p.tables e below (s₁.setTop (mkF m 0 #[.val (.long pp), .second, .val (.long qq), .second, .val (.long db), .second, .val (.long dh), .second, .val (.long fr), .second, .val (.int sel), .unset, .unset, .unset, .unset, .unset, .unset, .unset] [])) t → Steps p.tables e below (s₁.setTop (entryFrame m #[(.long pp), (.long qq), (.long db), (.long dh), (.long fr), (.int sel)] maxLocals)) t := fun t k => castTop (ef_0 m pp qq db dh fr sel) k
  have go1 : ∀ t, Steps p.tables e below (s₁.setTop (mkF m 15 #[.val (.long pp), .second, .val (.long qq), .second, .val (.long db), .second, .val (.long dh), .second, .val (.long fr), .second, .val (.int sel), .unset, .unset, .unset, .unset, .unset, .unset, .unset] [(.int (((sel.toUInt32 >>> ((4 : Int32) &&& 31).toUInt32).toInt32) &&& (63 : Int32))), (.long fr), (.long db), (.int (sel &&& (3 : Int32)))])) t → Steps p.tables e below (s₁.setTop (entryFrame m #[(.long pp), (.long qq), (.long db), (.long dh), (.long fr), (.int sel)] maxLocals)) t := by
    intro t k
    refine go0 t ?_
    show Steps p.tables e below (s₁.setTop (mkF m 0 #[.val (.long pp), .second, .val (.long qq), .second, .val (.long db), .second, .val (.long dh), .second, .val (.long fr), .second, .val (.int sel), .unset, .unset, .unset, .unset, .unset, .unset, .unset] [])) _
    refine XS.iload X0.here hx rfl (hb hby at_0) rfl ?_
    show Steps p.tables e below (s₁.setTop (mkF m 2 #[.val (.long pp), .second, .val (.long qq), .second, .val (.long db), .second, .val (.long dh), .second, .val (.long fr), .second, .val (.int sel), .unset, .unset, .unset, .unset, .unset, .unset, .unset] [(.int sel)])) _
    refine XS.iconst X0.here hx rfl (hb hby at_2) ?_
    show Steps p.tables e below (s₁.setTop (mkF m 3 #[.val (.long pp), .second, .val (.long qq), .second, .val (.long db), .second, .val (.long dh), .second, .val (.long fr), .second, .val (.int sel), .unset, .unset, .unset, .unset, .unset, .unset, .unset] [(.int (3 : Int32)), (.int sel)])) _
    refine XS.iand X0.here hx rfl (hb hby at_3) rfl ?_
    show Steps p.tables e below (s₁.setTop (mkF m 4 #[.val (.long pp), .second, .val (.long qq), .second, .val (.long db), .second, .val (.long dh), .second, .val (.long fr), .second, .val (.int sel), .unset, .unset, .unset, .unset, .unset, .unset, .unset] [(.int (sel &&& (3 : Int32)))])) _
    refine XS.lload X0.here hx rfl (hb hby at_4) rfl ?_
    show Steps p.tables e below (s₁.setTop (mkF m 6 #[.val (.long pp), .second, .val (.long qq), .second, .val (.long db), .second, .val (.long dh), .second, .val (.long fr), .second, .val (.int sel), .unset, .unset, .unset, .unset, .unset, .unset, .unset] [(.long db), (.int (sel &&& (3 : Int32)))])) _
    refine XS.lload X0.here hx rfl (hb hby at_6) rfl ?_
    show Steps p.tables e below (s₁.setTop (mkF m 8 #[.val (.long pp), .second, .val (.long qq), .second, .val (.long db), .second, .val (.long dh), .second, .val (.long fr), .second, .val (.int sel), .unset, .unset, .unset, .unset, .unset, .unset, .unset] [(.long fr), (.long db), (.int (sel &&& (3 : Int32)))])) _
    refine XS.iload X0.here hx rfl (hb hby at_8) rfl ?_
    show Steps p.tables e below (s₁.setTop (mkF m 10 #[.val (.long pp), .second, .val (.long qq), .second, .val (.long db), .second, .val (.long dh), .second, .val (.long fr), .second, .val (.int sel), .unset, .unset, .unset, .unset, .unset, .unset, .unset] [(.int sel), (.long fr), (.long db), (.int (sel &&& (3 : Int32)))])) _
    refine XS.iconst X0.here hx rfl (hb hby at_10) ?_
    show Steps p.tables e below (s₁.setTop (mkF m 11 #[.val (.long pp), .second, .val (.long qq), .second, .val (.long db), .second, .val (.long dh), .second, .val (.long fr), .second, .val (.int sel), .unset, .unset, .unset, .unset, .unset, .unset, .unset] [(.int (4 : Int32)), (.int sel), (.long fr), (.long db), (.int (sel &&& (3 : Int32)))])) _
    refine XS.iushr X0.here hx rfl (hb hby at_11) rfl ?_
    show Steps p.tables e below (s₁.setTop (mkF m 12 #[.val (.long pp), .second, .val (.long qq), .second, .val (.long db), .second, .val (.long dh), .second, .val (.long fr), .second, .val (.int sel), .unset, .unset, .unset, .unset, .unset, .unset, .unset] [(.int ((sel.toUInt32 >>> ((4 : Int32) &&& 31).toUInt32).toInt32)), (.long fr), (.long db), (.int (sel &&& (3 : Int32)))])) _
    refine XS.bipush X0.here hx rfl (hb hby at_12) ?_
    show Steps p.tables e below (s₁.setTop (mkF m 14 #[.val (.long pp), .second, .val (.long qq), .second, .val (.long db), .second, .val (.long dh), .second, .val (.long fr), .second, .val (.int sel), .unset, .unset, .unset, .unset, .unset, .unset, .unset] [(.int (63 : Int32)), (.int ((sel.toUInt32 >>> ((4 : Int32) &&& 31).toUInt32).toInt32)), (.long fr), (.long db), (.int (sel &&& (3 : Int32)))])) _
    refine XS.iand X0.here hx rfl (hb hby at_14) rfl ?_
    exact k
  obtain ⟨_, _, ⟨T2, L2, k2, n2⟩, -, X2, ⟨Lc2, hQ2, l2, y2, z2⟩, st2⟩ := Jvm.LawKit.callS X0 hx (y := (⟨"com/example/scripbook/scripbook/file/RecordMarkStandsForPinLaw", "pick", "(IJJI)J"⟩ : MethodName)) hown (mvT hZ (hw _ (List.mem_of_getElem? (i := 0) rfl))) (mvT hZ (hw _ (List.mem_of_getElem? (i := 1) rfl))) (mvT hZ (hw _ (List.mem_of_getElem? (i := 2) rfl))) (mvT hZ (hw _ (List.mem_of_getElem? (i := 3) rfl))) (by decide) (backOf (W := 0) (rm1 l Z a0 hw [] (sel &&& (3 : Int32)) db fr (((sel.toUInt32 >>> ((4 : Int32) &&& 31).toUInt32).toInt32) &&& (63 : Int32)) h0 n0 Z0) hZ (hw _ (List.mem_of_getElem? (i := 3) rfl)) (hw _ (List.mem_of_getElem? (i := 2) rfl)) (by decide) (by decide)) (g := (mkF m 15 #[.val (.long pp), .second, .val (.long qq), .second, .val (.long db), .second, .val (.long dh), .second, .val (.long fr), .second, .val (.int sel), .unset, .unset, .unset, .unset, .unset, .unset, .unset] [(.int (((sel.toUInt32 >>> ((4 : Int32) &&& 31).toUInt32).toInt32) &&& (63 : Int32))), (.long fr), (.long db), (.int (sel &&& (3 : Int32)))])) rfl (by rw [hml]; rfl) (argsL := [(.int (sel &&& (3 : Int32))), (.long db), (.long fr), (.int (((sel.toUInt32 >>> ((4 : Int32) &&& 31).toUInt32).toInt32) &&& (63 : Int32)))]) (rest := []) (lenOf pd_0_0 rfl) rfl (by show 2 * 0 + _ ≤ _; exact Nat.le_of_eq rfl) (hb hby at_15) (fun _ _ => ⟨rfl, e0, (by decide : 0 + 0 ≤ _), (by decide : 0 + 0 ≤ _)⟩)
  dsimp only [Pt.U, Pt.locs, Pt.cells, Pt.slots] at X2 l2 y2 z2 st2 hQ2
  subst l2 y2 z2
  obtain ⟨rfl, N2q, e2⟩ := hQ2
  have N2 := Fr.app N0 N2q
  have go3 : ∀ t, Steps p.tables e below (T2.setTop (mkF m 18 #[.val (.long pp), .second, .val (.long qq), .second, .val (.long db), .second, .val (.long dh), .second, .val (.long fr), .second, .val (.int sel), .unset, .unset, .unset, .unset, .unset, .unset, .unset] [(.long (own_pick (sel &&& (3 : Int32)) db fr (((sel.toUInt32 >>> ((4 : Int32) &&& 31).toUInt32).toInt32) &&& (63 : Int32))))])) t → Steps p.tables e below (s₁.setTop (entryFrame m #[(.long pp), (.long qq), (.long db), (.long dh), (.long fr), (.int sel)] maxLocals)) t := fun t k => go1 t (st2 _ k)
  obtain ⟨eb, h_eb⟩ : ∃ z : Int64, z = (own_pick (sel &&& (3 : Int32)) db fr (((sel.toUInt32 >>> ((4 : Int32) &&& 31).toUInt32).toInt32) &&& (63 : Int32))) := ⟨_, rfl⟩
  have go4 : ∀ t, Steps p.tables e below (T2.setTop (mkF m 20 #[.val (.long pp), .second, .val (.long qq), .second, .val (.long db), .second, .val (.long dh), .second, .val (.long fr), .second, .val (.int sel), .val (.long eb), .second, .unset, .unset, .unset, .unset, .unset] [])) t → Steps p.tables e below (s₁.setTop (entryFrame m #[(.long pp), (.long qq), (.long db), (.long dh), (.long fr), (.int sel)] maxLocals)) t := by
    intro t k
    rw [h_eb] at k
    refine go3 t ?_
    show Steps p.tables e below (T2.setTop (mkF m 18 #[.val (.long pp), .second, .val (.long qq), .second, .val (.long db), .second, .val (.long dh), .second, .val (.long fr), .second, .val (.int sel), .unset, .unset, .unset, .unset, .unset, .unset, .unset] [(.long (own_pick (sel &&& (3 : Int32)) db fr (((sel.toUInt32 >>> ((4 : Int32) &&& 31).toUInt32).toInt32) &&& (63 : Int32))))])) _
    refine XS.lstore X2.here hx rfl (hb hby at_18) rfl (l' := #[.val (.long pp), .second, .val (.long qq), .second, .val (.long db), .second, .val (.long dh), .second, .val (.long fr), .second, .val (.int sel), .val (.long (own_pick (sel &&& (3 : Int32)) db fr (((sel.toUInt32 >>> ((4 : Int32) &&& 31).toUInt32).toInt32) &&& (63 : Int32)))), .second, .unset, .unset, .unset, .unset, .unset]) rfl ?_
    exact k
  have go5 : ∀ t, Steps p.tables e below (T2.setTop (mkF m 42 #[.val (.long pp), .second, .val (.long qq), .second, .val (.long db), .second, .val (.long dh), .second, .val (.long fr), .second, .val (.int sel), .val (.long eb), .second, .unset, .unset, .unset, .unset, .unset] [(.int (((sel.toUInt32 >>> ((10 : Int32) &&& 31).toUInt32).toInt32) &&& (63 : Int32))), (.long (fr ^^^ (-1 : Int64))), (.long dh), (.int (((sel.toUInt32 >>> ((2 : Int32) &&& 31).toUInt32).toInt32) &&& (3 : Int32)))])) t → Steps p.tables e below (s₁.setTop (entryFrame m #[(.long pp), (.long qq), (.long db), (.long dh), (.long fr), (.int sel)] maxLocals)) t := by
    intro t k
    refine go4 t ?_
    show Steps p.tables e below (T2.setTop (mkF m 20 #[.val (.long pp), .second, .val (.long qq), .second, .val (.long db), .second, .val (.long dh), .second, .val (.long fr), .second, .val (.int sel), .val (.long eb), .second, .unset, .unset, .unset, .unset, .unset] [])) _
    refine XS.iload X2.here hx rfl (hb hby at_20) rfl ?_
    show Steps p.tables e below (T2.setTop (mkF m 22 #[.val (.long pp), .second, .val (.long qq), .second, .val (.long db), .second, .val (.long dh), .second, .val (.long fr), .second, .val (.int sel), .val (.long eb), .second, .unset, .unset, .unset, .unset, .unset] [(.int sel)])) _
    refine XS.iconst X2.here hx rfl (hb hby at_22) ?_
    show Steps p.tables e below (T2.setTop (mkF m 23 #[.val (.long pp), .second, .val (.long qq), .second, .val (.long db), .second, .val (.long dh), .second, .val (.long fr), .second, .val (.int sel), .val (.long eb), .second, .unset, .unset, .unset, .unset, .unset] [(.int (2 : Int32)), (.int sel)])) _
    refine XS.iushr X2.here hx rfl (hb hby at_23) rfl ?_
    show Steps p.tables e below (T2.setTop (mkF m 24 #[.val (.long pp), .second, .val (.long qq), .second, .val (.long db), .second, .val (.long dh), .second, .val (.long fr), .second, .val (.int sel), .val (.long eb), .second, .unset, .unset, .unset, .unset, .unset] [(.int ((sel.toUInt32 >>> ((2 : Int32) &&& 31).toUInt32).toInt32))])) _
    refine XS.iconst X2.here hx rfl (hb hby at_24) ?_
    show Steps p.tables e below (T2.setTop (mkF m 25 #[.val (.long pp), .second, .val (.long qq), .second, .val (.long db), .second, .val (.long dh), .second, .val (.long fr), .second, .val (.int sel), .val (.long eb), .second, .unset, .unset, .unset, .unset, .unset] [(.int (3 : Int32)), (.int ((sel.toUInt32 >>> ((2 : Int32) &&& 31).toUInt32).toInt32))])) _
    refine XS.iand X2.here hx rfl (hb hby at_25) rfl ?_
    show Steps p.tables e below (T2.setTop (mkF m 26 #[.val (.long pp), .second, .val (.long qq), .second, .val (.long db), .second, .val (.long dh), .second, .val (.long fr), .second, .val (.int sel), .val (.long eb), .second, .unset, .unset, .unset, .unset, .unset] [(.int (((sel.toUInt32 >>> ((2 : Int32) &&& 31).toUInt32).toInt32) &&& (3 : Int32)))])) _
    refine XS.lload X2.here hx rfl (hb hby at_26) rfl ?_
    show Steps p.tables e below (T2.setTop (mkF m 28 #[.val (.long pp), .second, .val (.long qq), .second, .val (.long db), .second, .val (.long dh), .second, .val (.long fr), .second, .val (.int sel), .val (.long eb), .second, .unset, .unset, .unset, .unset, .unset] [(.long dh), (.int (((sel.toUInt32 >>> ((2 : Int32) &&& 31).toUInt32).toInt32) &&& (3 : Int32)))])) _
    refine XS.lload X2.here hx rfl (hb hby at_28) rfl ?_
    show Steps p.tables e below (T2.setTop (mkF m 30 #[.val (.long pp), .second, .val (.long qq), .second, .val (.long db), .second, .val (.long dh), .second, .val (.long fr), .second, .val (.int sel), .val (.long eb), .second, .unset, .unset, .unset, .unset, .unset] [(.long fr), (.long dh), (.int (((sel.toUInt32 >>> ((2 : Int32) &&& 31).toUInt32).toInt32) &&& (3 : Int32)))])) _
    refine X2.ldc2Long hx hown (mvT hZ (hw _ (List.mem_of_getElem? (i := 4) rfl))) (g := (mkF m 30 #[.val (.long pp), .second, .val (.long qq), .second, .val (.long db), .second, .val (.long dh), .second, .val (.long fr), .second, .val (.int sel), .val (.long eb), .second, .unset, .unset, .unset, .unset, .unset] [(.long fr), (.long dh), (.int (((sel.toUInt32 >>> ((2 : Int32) &&& 31).toUInt32).toInt32) &&& (3 : Int32)))])) rfl (hb hby at_30) _ ?_
    show Steps p.tables e below (T2.setTop (mkF m 33 #[.val (.long pp), .second, .val (.long qq), .second, .val (.long db), .second, .val (.long dh), .second, .val (.long fr), .second, .val (.int sel), .val (.long eb), .second, .unset, .unset, .unset, .unset, .unset] [(.long (-1 : Int64)), (.long fr), (.long dh), (.int (((sel.toUInt32 >>> ((2 : Int32) &&& 31).toUInt32).toInt32) &&& (3 : Int32)))])) _
    refine XS.lxor X2.here hx rfl (hb hby at_33) rfl ?_
    show Steps p.tables e below (T2.setTop (mkF m 34 #[.val (.long pp), .second, .val (.long qq), .second, .val (.long db), .second, .val (.long dh), .second, .val (.long fr), .second, .val (.int sel), .val (.long eb), .second, .unset, .unset, .unset, .unset, .unset] [(.long (fr ^^^ (-1 : Int64))), (.long dh), (.int (((sel.toUInt32 >>> ((2 : Int32) &&& 31).toUInt32).toInt32) &&& (3 : Int32)))])) _
    refine XS.iload X2.here hx rfl (hb hby at_34) rfl ?_
    show Steps p.tables e below (T2.setTop (mkF m 36 #[.val (.long pp), .second, .val (.long qq), .second, .val (.long db), .second, .val (.long dh), .second, .val (.long fr), .second, .val (.int sel), .val (.long eb), .second, .unset, .unset, .unset, .unset, .unset] [(.int sel), (.long (fr ^^^ (-1 : Int64))), (.long dh), (.int (((sel.toUInt32 >>> ((2 : Int32) &&& 31).toUInt32).toInt32) &&& (3 : Int32)))])) _
    refine XS.bipush X2.here hx rfl (hb hby at_36) ?_
    show Steps p.tables e below (T2.setTop (mkF m 38 #[.val (.long pp), .second, .val (.long qq), .second, .val (.long db), .second, .val (.long dh), .second, .val (.long fr), .second, .val (.int sel), .val (.long eb), .second, .unset, .unset, .unset, .unset, .unset] [(.int (10 : Int32)), (.int sel), (.long (fr ^^^ (-1 : Int64))), (.long dh), (.int (((sel.toUInt32 >>> ((2 : Int32) &&& 31).toUInt32).toInt32) &&& (3 : Int32)))])) _
    refine XS.iushr X2.here hx rfl (hb hby at_38) rfl ?_
    show Steps p.tables e below (T2.setTop (mkF m 39 #[.val (.long pp), .second, .val (.long qq), .second, .val (.long db), .second, .val (.long dh), .second, .val (.long fr), .second, .val (.int sel), .val (.long eb), .second, .unset, .unset, .unset, .unset, .unset] [(.int ((sel.toUInt32 >>> ((10 : Int32) &&& 31).toUInt32).toInt32)), (.long (fr ^^^ (-1 : Int64))), (.long dh), (.int (((sel.toUInt32 >>> ((2 : Int32) &&& 31).toUInt32).toInt32) &&& (3 : Int32)))])) _
    refine XS.bipush X2.here hx rfl (hb hby at_39) ?_
    show Steps p.tables e below (T2.setTop (mkF m 41 #[.val (.long pp), .second, .val (.long qq), .second, .val (.long db), .second, .val (.long dh), .second, .val (.long fr), .second, .val (.int sel), .val (.long eb), .second, .unset, .unset, .unset, .unset, .unset] [(.int (63 : Int32)), (.int ((sel.toUInt32 >>> ((10 : Int32) &&& 31).toUInt32).toInt32)), (.long (fr ^^^ (-1 : Int64))), (.long dh), (.int (((sel.toUInt32 >>> ((2 : Int32) &&& 31).toUInt32).toInt32) &&& (3 : Int32)))])) _
    refine XS.iand X2.here hx rfl (hb hby at_41) rfl ?_
    exact k
  obtain ⟨_, _, ⟨T6, L6, k6, n6⟩, -, X6, ⟨Lc6, hQ6, l6, y6, z6⟩, st6⟩ := Jvm.LawKit.callS X2 hx (y := (⟨"com/example/scripbook/scripbook/file/RecordMarkStandsForPinLaw", "pick", "(IJJI)J"⟩ : MethodName)) hown (mvT hZ (hw _ (List.mem_of_getElem? (i := 0) rfl))) (mvT hZ (hw _ (List.mem_of_getElem? (i := 1) rfl))) (mvT hZ (hw _ (List.mem_of_getElem? (i := 2) rfl))) (mvT hZ (hw _ (List.mem_of_getElem? (i := 3) rfl))) (by decide) (backOf (W := 0) (rm1 l Z a0 hw [] (((sel.toUInt32 >>> ((2 : Int32) &&& 31).toUInt32).toInt32) &&& (3 : Int32)) dh (fr ^^^ (-1 : Int64)) (((sel.toUInt32 >>> ((10 : Int32) &&& 31).toUInt32).toInt32) &&& (63 : Int32)) h0 n0 Z0) hZ (hw _ (List.mem_of_getElem? (i := 3) rfl)) (hw _ (List.mem_of_getElem? (i := 2) rfl)) (by decide) (by decide)) (g := (mkF m 42 #[.val (.long pp), .second, .val (.long qq), .second, .val (.long db), .second, .val (.long dh), .second, .val (.long fr), .second, .val (.int sel), .val (.long eb), .second, .unset, .unset, .unset, .unset, .unset] [(.int (((sel.toUInt32 >>> ((10 : Int32) &&& 31).toUInt32).toInt32) &&& (63 : Int32))), (.long (fr ^^^ (-1 : Int64))), (.long dh), (.int (((sel.toUInt32 >>> ((2 : Int32) &&& 31).toUInt32).toInt32) &&& (3 : Int32)))])) rfl (by rw [hml]; rfl) (argsL := [(.int (((sel.toUInt32 >>> ((2 : Int32) &&& 31).toUInt32).toInt32) &&& (3 : Int32))), (.long dh), (.long (fr ^^^ (-1 : Int64))), (.int (((sel.toUInt32 >>> ((10 : Int32) &&& 31).toUInt32).toInt32) &&& (63 : Int32)))]) (rest := []) (lenOf pd_0_0 rfl) rfl (by show 2 * 0 + _ ≤ _; exact Nat.le_of_eq rfl) (hb hby at_42) (fun _ _ => ⟨rfl, e2, (by decide : 0 + 0 ≤ _), (by decide : 0 + 0 ≤ _)⟩)
  dsimp only [Pt.U, Pt.locs, Pt.cells, Pt.slots] at X6 l6 y6 z6 st6 hQ6
  subst l6 y6 z6
  obtain ⟨rfl, N6q, e6⟩ := hQ6
  have N6 := Fr.app N2 N6q
  have go7 : ∀ t, Steps p.tables e below (T6.setTop (mkF m 45 #[.val (.long pp), .second, .val (.long qq), .second, .val (.long db), .second, .val (.long dh), .second, .val (.long fr), .second, .val (.int sel), .val (.long eb), .second, .unset, .unset, .unset, .unset, .unset] [(.long (own_pick (((sel.toUInt32 >>> ((2 : Int32) &&& 31).toUInt32).toInt32) &&& (3 : Int32)) dh (fr ^^^ (-1 : Int64)) (((sel.toUInt32 >>> ((10 : Int32) &&& 31).toUInt32).toInt32) &&& (63 : Int32))))])) t → Steps p.tables e below (s₁.setTop (entryFrame m #[(.long pp), (.long qq), (.long db), (.long dh), (.long fr), (.int sel)] maxLocals)) t := fun t k => go5 t (st6 _ k)
  obtain ⟨eh, h_eh⟩ : ∃ z : Int64, z = (own_pick (((sel.toUInt32 >>> ((2 : Int32) &&& 31).toUInt32).toInt32) &&& (3 : Int32)) dh (fr ^^^ (-1 : Int64)) (((sel.toUInt32 >>> ((10 : Int32) &&& 31).toUInt32).toInt32) &&& (63 : Int32))) := ⟨_, rfl⟩
  have go8 : ∀ t, Steps p.tables e below (T6.setTop (mkF m 47 #[.val (.long pp), .second, .val (.long qq), .second, .val (.long db), .second, .val (.long dh), .second, .val (.long fr), .second, .val (.int sel), .val (.long eb), .second, .val (.long eh), .second, .unset, .unset, .unset] [])) t → Steps p.tables e below (s₁.setTop (entryFrame m #[(.long pp), (.long qq), (.long db), (.long dh), (.long fr), (.int sel)] maxLocals)) t := by
    intro t k
    rw [h_eh] at k
    refine go7 t ?_
    show Steps p.tables e below (T6.setTop (mkF m 45 #[.val (.long pp), .second, .val (.long qq), .second, .val (.long db), .second, .val (.long dh), .second, .val (.long fr), .second, .val (.int sel), .val (.long eb), .second, .unset, .unset, .unset, .unset, .unset] [(.long (own_pick (((sel.toUInt32 >>> ((2 : Int32) &&& 31).toUInt32).toInt32) &&& (3 : Int32)) dh (fr ^^^ (-1 : Int64)) (((sel.toUInt32 >>> ((10 : Int32) &&& 31).toUInt32).toInt32) &&& (63 : Int32))))])) _
    refine XS.lstore X6.here hx rfl (hb hby at_45) rfl (l' := #[.val (.long pp), .second, .val (.long qq), .second, .val (.long db), .second, .val (.long dh), .second, .val (.long fr), .second, .val (.int sel), .val (.long eb), .second, .val (.long (own_pick (((sel.toUInt32 >>> ((2 : Int32) &&& 31).toUInt32).toInt32) &&& (3 : Int32)) dh (fr ^^^ (-1 : Int64)) (((sel.toUInt32 >>> ((10 : Int32) &&& 31).toUInt32).toInt32) &&& (63 : Int32)))), .second, .unset, .unset, .unset]) rfl ?_
    exact k
  obtain ⟨T9, h9, X9, e9, E9, A9, D9, -, st9⟩ := newO X6 hx hZ hown (hw _ (List.mem_of_getElem? (i := 5) rfl)) (hw _ (List.mem_of_getElem? (i := 6) rfl)) (hw _ (List.mem_of_getElem? (i := 7) rfl)) e6 (g := (mkF m 47 #[.val (.long pp), .second, .val (.long qq), .second, .val (.long db), .second, .val (.long dh), .second, .val (.long fr), .second, .val (.int sel), .val (.long eb), .second, .val (.long eh), .second, .unset, .unset, .unset] [])) rfl (hb hby at_47) (by decide) (by decide)
  obtain ⟨b9, g9⟩ : ∃ z, z = h0.size := ⟨_, rfl⟩
  rw [← g9] at A9 D9 st9
  have g_b9 : n0 ≤ b9 := Nat.le_trans Z0 (Nat.le_of_eq g9.symm)
  have Z9 : n0 ≤ h9.size := Nat.le_trans Z0 E9.1
  have F_fromBytes_b9 : Fld Z h9 b9 "com/example/scripbook/scripbook/file/RecordMark" "fromBytes" "J" (.long (0 : Int64)) := D9 (Or.inr (hw _ (List.mem_of_getElem? (i := 20) rfl))) (ty := .long) (by decide)
  have F_fromHash_b9 : Fld Z h9 b9 "com/example/scripbook/scripbook/file/RecordMark" "fromHash" "J" (.long (0 : Int64)) := D9 (Or.inr (hw _ (List.mem_of_getElem? (i := 22) rfl))) (ty := .long) (by decide)
  have F_bytes_b9 : Fld Z h9 b9 "com/example/scripbook/scripbook/file/RecordMark" "bytes" "J" (.long (0 : Int64)) := D9 (Or.inr (hw _ (List.mem_of_getElem? (i := 24) rfl))) (ty := .long) (by decide)
  have F_hash_b9 : Fld Z h9 b9 "com/example/scripbook/scripbook/file/RecordMark" "hash" "J" (.long (0 : Int64)) := D9 (Or.inr (hw _ (List.mem_of_getElem? (i := 26) rfl))) (ty := .long) (by decide)
  have go10 : ∀ t, Steps p.tables e below (T9.setTop (mkF m 50 #[.val (.long pp), .second, .val (.long qq), .second, .val (.long db), .second, .val (.long dh), .second, .val (.long fr), .second, .val (.int sel), .val (.long eb), .second, .val (.long eh), .second, .unset, .unset, .unset] [(.ref b9)])) t → Steps p.tables e below (s₁.setTop (entryFrame m #[(.long pp), (.long qq), (.long db), (.long dh), (.long fr), (.int sel)] maxLocals)) t := fun t k => go8 t (st9 _ k)
  have go11 : ∀ t, Steps p.tables e below (T9.setTop (mkF m 61 #[.val (.long pp), .second, .val (.long qq), .second, .val (.long db), .second, .val (.long dh), .second, .val (.long fr), .second, .val (.int sel), .val (.long eb), .second, .val (.long eh), .second, .unset, .unset, .unset] [(.long (qq ^^^ dh)), (.long (pp ^^^ db)), (.long qq), (.long pp), (.ref b9), (.ref b9)])) t → Steps p.tables e below (s₁.setTop (entryFrame m #[(.long pp), (.long qq), (.long db), (.long dh), (.long fr), (.int sel)] maxLocals)) t := by
    intro t k
    refine go10 t ?_
    show Steps p.tables e below (T9.setTop (mkF m 50 #[.val (.long pp), .second, .val (.long qq), .second, .val (.long db), .second, .val (.long dh), .second, .val (.long fr), .second, .val (.int sel), .val (.long eb), .second, .val (.long eh), .second, .unset, .unset, .unset] [(.ref b9)])) _
    refine XS.dup X9.here hx rfl (hb hby at_50) rfl rfl ?_
    show Steps p.tables e below (T9.setTop (mkF m 51 #[.val (.long pp), .second, .val (.long qq), .second, .val (.long db), .second, .val (.long dh), .second, .val (.long fr), .second, .val (.int sel), .val (.long eb), .second, .val (.long eh), .second, .unset, .unset, .unset] [(.ref b9), (.ref b9)])) _
    refine XS.lloadN X9.here hx rfl (hb hby at_51) rfl ?_
    show Steps p.tables e below (T9.setTop (mkF m 52 #[.val (.long pp), .second, .val (.long qq), .second, .val (.long db), .second, .val (.long dh), .second, .val (.long fr), .second, .val (.int sel), .val (.long eb), .second, .val (.long eh), .second, .unset, .unset, .unset] [(.long pp), (.ref b9), (.ref b9)])) _
    refine XS.lloadN X9.here hx rfl (hb hby at_52) rfl ?_
    show Steps p.tables e below (T9.setTop (mkF m 53 #[.val (.long pp), .second, .val (.long qq), .second, .val (.long db), .second, .val (.long dh), .second, .val (.long fr), .second, .val (.int sel), .val (.long eb), .second, .val (.long eh), .second, .unset, .unset, .unset] [(.long qq), (.long pp), (.ref b9), (.ref b9)])) _
    refine XS.lloadN X9.here hx rfl (hb hby at_53) rfl ?_
    show Steps p.tables e below (T9.setTop (mkF m 54 #[.val (.long pp), .second, .val (.long qq), .second, .val (.long db), .second, .val (.long dh), .second, .val (.long fr), .second, .val (.int sel), .val (.long eb), .second, .val (.long eh), .second, .unset, .unset, .unset] [(.long pp), (.long qq), (.long pp), (.ref b9), (.ref b9)])) _
    refine XS.lload X9.here hx rfl (hb hby at_54) rfl ?_
    show Steps p.tables e below (T9.setTop (mkF m 56 #[.val (.long pp), .second, .val (.long qq), .second, .val (.long db), .second, .val (.long dh), .second, .val (.long fr), .second, .val (.int sel), .val (.long eb), .second, .val (.long eh), .second, .unset, .unset, .unset] [(.long db), (.long pp), (.long qq), (.long pp), (.ref b9), (.ref b9)])) _
    refine XS.lxor X9.here hx rfl (hb hby at_56) rfl ?_
    show Steps p.tables e below (T9.setTop (mkF m 57 #[.val (.long pp), .second, .val (.long qq), .second, .val (.long db), .second, .val (.long dh), .second, .val (.long fr), .second, .val (.int sel), .val (.long eb), .second, .val (.long eh), .second, .unset, .unset, .unset] [(.long (pp ^^^ db)), (.long qq), (.long pp), (.ref b9), (.ref b9)])) _
    refine XS.lloadN X9.here hx rfl (hb hby at_57) rfl ?_
    show Steps p.tables e below (T9.setTop (mkF m 58 #[.val (.long pp), .second, .val (.long qq), .second, .val (.long db), .second, .val (.long dh), .second, .val (.long fr), .second, .val (.int sel), .val (.long eb), .second, .val (.long eh), .second, .unset, .unset, .unset] [(.long qq), (.long (pp ^^^ db)), (.long qq), (.long pp), (.ref b9), (.ref b9)])) _
    refine XS.lload X9.here hx rfl (hb hby at_58) rfl ?_
    show Steps p.tables e below (T9.setTop (mkF m 60 #[.val (.long pp), .second, .val (.long qq), .second, .val (.long db), .second, .val (.long dh), .second, .val (.long fr), .second, .val (.int sel), .val (.long eb), .second, .val (.long eh), .second, .unset, .unset, .unset] [(.long dh), (.long qq), (.long (pp ^^^ db)), (.long qq), (.long pp), (.ref b9), (.ref b9)])) _
    refine XS.lxor X9.here hx rfl (hb hby at_60) rfl ?_
    exact k
  obtain ⟨_, _, ⟨T12, L12, k12, n12⟩, -, X12, ⟨Lc12, hQ12, l12, y12, z12⟩, st12⟩ := X9.specialBack hx (y := (⟨"com/example/scripbook/scripbook/file/RecordMark", "<init>", "(JJJJ)V"⟩ : MethodName)) rfl hown (mvT hZ (hw _ (List.mem_of_getElem? (i := 8) rfl))) (mvT hZ (hw _ (List.mem_of_getElem? (i := 9) rfl))) (mvT hZ (hw _ (List.mem_of_getElem? (i := 10) rfl))) (by decide) (backOf (W := 1) (rm2 l Z a0 hw [] b9 pp qq (pp ^^^ db) (qq ^^^ dh) (.long 0) (.long 0) (.long 0) (.long 0) h9 n0 Z9 A9 g_b9 F_fromBytes_b9 F_fromHash_b9 F_bytes_b9 F_hash_b9) hZ (hw _ (List.mem_of_getElem? (i := 10) rfl)) (hw _ (List.mem_of_getElem? (i := 7) rfl)) (by decide) (by decide)) (g := (mkF m 61 #[.val (.long pp), .second, .val (.long qq), .second, .val (.long db), .second, .val (.long dh), .second, .val (.long fr), .second, .val (.int sel), .val (.long eb), .second, .val (.long eh), .second, .unset, .unset, .unset] [(.long (qq ^^^ dh)), (.long (pp ^^^ db)), (.long qq), (.long pp), (.ref b9), (.ref b9)])) rfl (by rw [hml]; rfl) (Steps.refl _) (a := b9) (argsL := [(.long pp), (.long qq), (.long (pp ^^^ db)), (.long (qq ^^^ dh))]) (rest := [(.ref b9)]) (lenOf pd_0_1 rfl) rfl (by show 2 * 0 + _ ≤ _; exact Nat.le_of_eq rfl) (hb hby at_61) (fun _ _ => ⟨rfl, e9, (by decide : 1 + 0 ≤ _), (by decide : 4 + 0 ≤ _)⟩)
  dsimp only [Pt.U, Pt.locs, Pt.cells, Pt.slots] at X12 l12 y12 z12 st12 hQ12
  subst l12 y12 z12
  obtain ⟨rfl, N12q, K12, Eb, Fb_fromBytes, Fb_fromHash, Fb_bytes, Fb_hash⟩ := hQ12
  have Zi : n0 ≤ T12.heap.size := Nat.le_trans Z9 K12.1
  have N12 := Fr.app N6 N12q
  have go13 : ∀ t, Steps p.tables e below (T12.setTop (mkF m 64 #[.val (.long pp), .second, .val (.long qq), .second, .val (.long db), .second, .val (.long dh), .second, .val (.long fr), .second, .val (.int sel), .val (.long eb), .second, .val (.long eh), .second, .unset, .unset, .unset] [(.ref b9)])) t → Steps p.tables e below (s₁.setTop (entryFrame m #[(.long pp), (.long qq), (.long db), (.long dh), (.long fr), (.int sel)] maxLocals)) t := fun t k => go11 t (st12.trans k)
  have go14 : ∀ t, Steps p.tables e below (T12.setTop (mkF m 76 #[.val (.long pp), .second, .val (.long qq), .second, .val (.long db), .second, .val (.long dh), .second, .val (.long fr), .second, .val (.int sel), .val (.long eb), .second, .val (.long eh), .second, .val (.ref b9), .unset, .unset] [(.long (qq ^^^ eh)), (.long (pp ^^^ eb)), (.ref b9)])) t → Steps p.tables e below (s₁.setTop (entryFrame m #[(.long pp), (.long qq), (.long db), (.long dh), (.long fr), (.int sel)] maxLocals)) t := by
    intro t k
    refine go13 t ?_
    show Steps p.tables e below (T12.setTop (mkF m 64 #[.val (.long pp), .second, .val (.long qq), .second, .val (.long db), .second, .val (.long dh), .second, .val (.long fr), .second, .val (.int sel), .val (.long eb), .second, .val (.long eh), .second, .unset, .unset, .unset] [(.ref b9)])) _
    refine XS.astore X12.here hx rfl (hb hby at_64) rfl rfl (l' := #[.val (.long pp), .second, .val (.long qq), .second, .val (.long db), .second, .val (.long dh), .second, .val (.long fr), .second, .val (.int sel), .val (.long eb), .second, .val (.long eh), .second, .val (.ref b9), .unset, .unset]) rfl ?_
    show Steps p.tables e below (T12.setTop (mkF m 66 #[.val (.long pp), .second, .val (.long qq), .second, .val (.long db), .second, .val (.long dh), .second, .val (.long fr), .second, .val (.int sel), .val (.long eb), .second, .val (.long eh), .second, .val (.ref b9), .unset, .unset] [])) _
    refine XS.aload X12.here hx rfl (hb hby at_66) rfl rfl ?_
    show Steps p.tables e below (T12.setTop (mkF m 68 #[.val (.long pp), .second, .val (.long qq), .second, .val (.long db), .second, .val (.long dh), .second, .val (.long fr), .second, .val (.int sel), .val (.long eb), .second, .val (.long eh), .second, .val (.ref b9), .unset, .unset] [(.ref b9)])) _
    refine XS.lloadN X12.here hx rfl (hb hby at_68) rfl ?_
    show Steps p.tables e below (T12.setTop (mkF m 69 #[.val (.long pp), .second, .val (.long qq), .second, .val (.long db), .second, .val (.long dh), .second, .val (.long fr), .second, .val (.int sel), .val (.long eb), .second, .val (.long eh), .second, .val (.ref b9), .unset, .unset] [(.long pp), (.ref b9)])) _
    refine XS.lload X12.here hx rfl (hb hby at_69) rfl ?_
    show Steps p.tables e below (T12.setTop (mkF m 71 #[.val (.long pp), .second, .val (.long qq), .second, .val (.long db), .second, .val (.long dh), .second, .val (.long fr), .second, .val (.int sel), .val (.long eb), .second, .val (.long eh), .second, .val (.ref b9), .unset, .unset] [(.long eb), (.long pp), (.ref b9)])) _
    refine XS.lxor X12.here hx rfl (hb hby at_71) rfl ?_
    show Steps p.tables e below (T12.setTop (mkF m 72 #[.val (.long pp), .second, .val (.long qq), .second, .val (.long db), .second, .val (.long dh), .second, .val (.long fr), .second, .val (.int sel), .val (.long eb), .second, .val (.long eh), .second, .val (.ref b9), .unset, .unset] [(.long (pp ^^^ eb)), (.ref b9)])) _
    refine XS.lloadN X12.here hx rfl (hb hby at_72) rfl ?_
    show Steps p.tables e below (T12.setTop (mkF m 73 #[.val (.long pp), .second, .val (.long qq), .second, .val (.long db), .second, .val (.long dh), .second, .val (.long fr), .second, .val (.int sel), .val (.long eb), .second, .val (.long eh), .second, .val (.ref b9), .unset, .unset] [(.long qq), (.long (pp ^^^ eb)), (.ref b9)])) _
    refine XS.lload X12.here hx rfl (hb hby at_73) rfl ?_
    show Steps p.tables e below (T12.setTop (mkF m 75 #[.val (.long pp), .second, .val (.long qq), .second, .val (.long db), .second, .val (.long dh), .second, .val (.long fr), .second, .val (.int sel), .val (.long eb), .second, .val (.long eh), .second, .val (.ref b9), .unset, .unset] [(.long eh), (.long qq), (.long (pp ^^^ eb)), (.ref b9)])) _
    refine XS.lxor X12.here hx rfl (hb hby at_75) rfl ?_
    exact k
  obtain ⟨cq15, kq15, q15a, q15b, q15c⟩ := isOf hZ rfl Eb
  obtain ⟨_, _, ⟨T15, L15, k15, n15⟩, -, X15, ⟨Lc15, hQ15, l15, y15, z15⟩, st15⟩ := X12.virtualBack hx (y := (⟨"com/example/scripbook/scripbook/file/RecordMark", "standsFor", "(JJ)Z"⟩ : MethodName)) (z := (⟨"com/example/scripbook/scripbook/file/RecordMark", "standsFor", "(JJ)Z"⟩ : MethodName)) hown (mvT hZ (hw _ (List.mem_of_getElem? (i := 27) rfl))) (mvT hZ (hw _ (List.mem_of_getElem? (i := 28) rfl))) (notFace_of_selects (args := #[]) (mvT hZ (hw _ (List.mem_of_getElem? (i := 30) rfl)))) (mvT hZ (hw _ (List.mem_of_getElem? (i := 30) rfl))) (mvT hZ (hw _ (List.mem_of_getElem? (i := 29) rfl))) (by decide) (backOf (W := 0) (rm5 l Z a0 hw [] b9 (pp ^^^ eb) (qq ^^^ eh) pp qq (pp ^^^ db) (qq ^^^ dh) T12.heap n0 Zi Fb_fromBytes Fb_fromHash Fb_bytes Fb_hash) hZ (hw _ (List.mem_of_getElem? (i := 31) rfl)) (hw _ (List.mem_of_getElem? (i := 7) rfl)) (by decide) (by decide)) q15a q15c (g := (mkF m 76 #[.val (.long pp), .second, .val (.long qq), .second, .val (.long db), .second, .val (.long dh), .second, .val (.long fr), .second, .val (.int sel), .val (.long eb), .second, .val (.long eh), .second, .val (.ref b9), .unset, .unset] [(.long (qq ^^^ eh)), (.long (pp ^^^ eb)), (.ref b9)])) rfl (by rw [hml]; rfl) (Steps.refl _) (argsL := [(.long (pp ^^^ eb)), (.long (qq ^^^ eh))]) (rest := []) (lenOf pd_0_2 rfl) rfl (by show 2 * 0 + _ ≤ _; exact Nat.le_of_eq rfl) (hb hby at_76) (fun _ _ => ⟨rfl, rfl, (by decide : 1 + 0 ≤ _), (by decide : 4 + 0 ≤ _)⟩)
  dsimp only [Pt.U, Pt.locs, Pt.cells, Pt.slots] at X15 l15 y15 z15 st15 hQ15
  subst l15 y15 z15
  obtain ⟨rfl, N15q, e15⟩ := hQ15
  have N15 := Fr.app N12 N15q
  have go16 : ∀ t, Steps p.tables e below (T15.setTop (mkF m 79 #[.val (.long pp), .second, .val (.long qq), .second, .val (.long db), .second, .val (.long dh), .second, .val (.long fr), .second, .val (.int sel), .val (.long eb), .second, .val (.long eh), .second, .val (.ref b9), .unset, .unset] [(.int (own_sf pp qq (pp ^^^ db) (qq ^^^ dh) (pp ^^^ eb) (qq ^^^ eh)))])) t → Steps p.tables e below (s₁.setTop (entryFrame m #[(.long pp), (.long qq), (.long db), (.long dh), (.long fr), (.int sel)] maxLocals)) t := fun t k => go14 t (st15.trans k)
  obtain ⟨gt, h_gt⟩ : ∃ z : Int32, z = (own_sf pp qq (pp ^^^ db) (qq ^^^ dh) (pp ^^^ eb) (qq ^^^ eh)) := ⟨_, rfl⟩
  have go17 : ∀ t, Steps p.tables e below (T15.setTop (mkF m 81 #[.val (.long pp), .second, .val (.long qq), .second, .val (.long db), .second, .val (.long dh), .second, .val (.long fr), .second, .val (.int sel), .val (.long eb), .second, .val (.long eh), .second, .val (.ref b9), .val (.int gt), .unset] [])) t → Steps p.tables e below (s₁.setTop (entryFrame m #[(.long pp), (.long qq), (.long db), (.long dh), (.long fr), (.int sel)] maxLocals)) t := by
    intro t k
    rw [h_gt] at k
    refine go16 t ?_
    show Steps p.tables e below (T15.setTop (mkF m 79 #[.val (.long pp), .second, .val (.long qq), .second, .val (.long db), .second, .val (.long dh), .second, .val (.long fr), .second, .val (.int sel), .val (.long eb), .second, .val (.long eh), .second, .val (.ref b9), .unset, .unset] [(.int (own_sf pp qq (pp ^^^ db) (qq ^^^ dh) (pp ^^^ eb) (qq ^^^ eh)))])) _
    refine XS.istore X15.here hx rfl (hb hby at_79) rfl (l' := #[.val (.long pp), .second, .val (.long qq), .second, .val (.long db), .second, .val (.long dh), .second, .val (.long fr), .second, .val (.int sel), .val (.long eb), .second, .val (.long eh), .second, .val (.ref b9), .val (.int (own_sf pp qq (pp ^^^ db) (qq ^^^ dh) (pp ^^^ eb) (qq ^^^ eh))), .unset]) rfl ?_
    exact k
  obtain ⟨ex, hp19, go18⟩ : ∃ (ex : Int32), (ex = if (eb = db ∧ eh = dh) ∨ (eb = 0 ∧ eh = 0) then 1 else 0) ∧ (∀ t, Steps p.tables e below (T15.setTop (mkF m 118 #[.val (.long pp), .second, .val (.long qq), .second, .val (.long db), .second, .val (.long dh), .second, .val (.long fr), .second, .val (.int sel), .val (.long eb), .second, .val (.long eh), .second, .val (.ref b9), .val (.int gt), .val (.int ex)] [])) t → Steps p.tables e below (s₁.setTop (entryFrame m #[(.long pp), (.long qq), (.long db), (.long dh), (.long fr), (.int sel)] maxLocals)) t) := by
    by_cases hc86 : (lcmpW eb db) = (0 : Int32)
    · skip
      by_cases hc94 : (lcmpW eh dh) = (0 : Int32)
      · skip
        refine ⟨(1 : Int32), (if_pos (Or.inl ⟨((lw_eq _ _).mp hc86), ((lw_eq _ _).mp hc94)⟩)).symm, fun t k => go17 t ?_⟩
        show Steps p.tables e below (T15.setTop (mkF m 81 #[.val (.long pp), .second, .val (.long qq), .second, .val (.long db), .second, .val (.long dh), .second, .val (.long fr), .second, .val (.int sel), .val (.long eb), .second, .val (.long eh), .second, .val (.ref b9), .val (.int gt), .unset] [])) _
        refine XS.lload X15.here hx rfl (hb hby at_81) rfl ?_
        show Steps p.tables e below (T15.setTop (mkF m 83 #[.val (.long pp), .second, .val (.long qq), .second, .val (.long db), .second, .val (.long dh), .second, .val (.long fr), .second, .val (.int sel), .val (.long eb), .second, .val (.long eh), .second, .val (.ref b9), .val (.int gt), .unset] [(.long eb)])) _
        refine XS.lload X15.here hx rfl (hb hby at_83) rfl ?_
        show Steps p.tables e below (T15.setTop (mkF m 85 #[.val (.long pp), .second, .val (.long qq), .second, .val (.long db), .second, .val (.long dh), .second, .val (.long fr), .second, .val (.int sel), .val (.long eb), .second, .val (.long eh), .second, .val (.ref b9), .val (.int gt), .unset] [(.long db), (.long eb)])) _
        refine XS.lcmp X15.here hx rfl (hb hby at_85) rfl ?_
        show Steps p.tables e below (T15.setTop (mkF m 86 #[.val (.long pp), .second, .val (.long qq), .second, .val (.long db), .second, .val (.long dh), .second, .val (.long fr), .second, .val (.int sel), .val (.long eb), .second, .val (.long eh), .second, .val (.ref b9), .val (.int gt), .unset] [(.int (lcmpW eb db))])) _
        refine XS.ifNo X15.here hx rfl (hb hby at_86) rfl ((if0 _ _).trans (teq hc86).2) ?_
        show Steps p.tables e below (T15.setTop (mkF m 89 #[.val (.long pp), .second, .val (.long qq), .second, .val (.long db), .second, .val (.long dh), .second, .val (.long fr), .second, .val (.int sel), .val (.long eb), .second, .val (.long eh), .second, .val (.ref b9), .val (.int gt), .unset] [])) _
        refine XS.lload X15.here hx rfl (hb hby at_89) rfl ?_
        show Steps p.tables e below (T15.setTop (mkF m 91 #[.val (.long pp), .second, .val (.long qq), .second, .val (.long db), .second, .val (.long dh), .second, .val (.long fr), .second, .val (.int sel), .val (.long eb), .second, .val (.long eh), .second, .val (.ref b9), .val (.int gt), .unset] [(.long eh)])) _
        refine XS.lload X15.here hx rfl (hb hby at_91) rfl ?_
        show Steps p.tables e below (T15.setTop (mkF m 93 #[.val (.long pp), .second, .val (.long qq), .second, .val (.long db), .second, .val (.long dh), .second, .val (.long fr), .second, .val (.int sel), .val (.long eb), .second, .val (.long eh), .second, .val (.ref b9), .val (.int gt), .unset] [(.long dh), (.long eh)])) _
        refine XS.lcmp X15.here hx rfl (hb hby at_93) rfl ?_
        show Steps p.tables e below (T15.setTop (mkF m 94 #[.val (.long pp), .second, .val (.long qq), .second, .val (.long db), .second, .val (.long dh), .second, .val (.long fr), .second, .val (.int sel), .val (.long eb), .second, .val (.long eh), .second, .val (.ref b9), .val (.int gt), .unset] [(.int (lcmpW eh dh))])) _
        refine XS.ifYes X15.here hx rfl (pc0 := 94) (pc' := 111) rfl (hb hby at_94) rfl ((if0 _ _).trans (teq hc94).1) (by decide) (by decide) ?_
        show Steps p.tables e below (T15.setTop (mkF m 111 #[.val (.long pp), .second, .val (.long qq), .second, .val (.long db), .second, .val (.long dh), .second, .val (.long fr), .second, .val (.int sel), .val (.long eb), .second, .val (.long eh), .second, .val (.ref b9), .val (.int gt), .unset] [])) _
        refine XS.iconst X15.here hx rfl (hb hby at_111) ?_
        show Steps p.tables e below (T15.setTop (mkF m 112 #[.val (.long pp), .second, .val (.long qq), .second, .val (.long db), .second, .val (.long dh), .second, .val (.long fr), .second, .val (.int sel), .val (.long eb), .second, .val (.long eh), .second, .val (.ref b9), .val (.int gt), .unset] [(.int (1 : Int32))])) _
        refine XS.goto X15.here hx rfl (pc0 := 112) (pc' := 116) rfl (hb hby at_112) (by decide) (by decide) ?_
        show Steps p.tables e below (T15.setTop (mkF m 116 #[.val (.long pp), .second, .val (.long qq), .second, .val (.long db), .second, .val (.long dh), .second, .val (.long fr), .second, .val (.int sel), .val (.long eb), .second, .val (.long eh), .second, .val (.ref b9), .val (.int gt), .unset] [(.int (1 : Int32))])) _
        refine XS.istore X15.here hx rfl (hb hby at_116) rfl (l' := #[.val (.long pp), .second, .val (.long qq), .second, .val (.long db), .second, .val (.long dh), .second, .val (.long fr), .second, .val (.int sel), .val (.long eb), .second, .val (.long eh), .second, .val (.ref b9), .val (.int gt), .val (.int (1 : Int32))]) rfl ?_
        exact k
      · skip
        by_cases hc101 : (lcmpW eb (0 : Int64)) = (0 : Int32)
        · skip
          by_cases hc108 : (lcmpW eh (0 : Int64)) = (0 : Int32)
          · skip
            refine ⟨(1 : Int32), (if_pos (Or.inr ⟨((lw_eq _ _).mp hc101), ((lw_eq _ _).mp hc108)⟩)).symm, fun t k => go17 t ?_⟩
            show Steps p.tables e below (T15.setTop (mkF m 81 #[.val (.long pp), .second, .val (.long qq), .second, .val (.long db), .second, .val (.long dh), .second, .val (.long fr), .second, .val (.int sel), .val (.long eb), .second, .val (.long eh), .second, .val (.ref b9), .val (.int gt), .unset] [])) _
            refine XS.lload X15.here hx rfl (hb hby at_81) rfl ?_
            show Steps p.tables e below (T15.setTop (mkF m 83 #[.val (.long pp), .second, .val (.long qq), .second, .val (.long db), .second, .val (.long dh), .second, .val (.long fr), .second, .val (.int sel), .val (.long eb), .second, .val (.long eh), .second, .val (.ref b9), .val (.int gt), .unset] [(.long eb)])) _
            refine XS.lload X15.here hx rfl (hb hby at_83) rfl ?_
            show Steps p.tables e below (T15.setTop (mkF m 85 #[.val (.long pp), .second, .val (.long qq), .second, .val (.long db), .second, .val (.long dh), .second, .val (.long fr), .second, .val (.int sel), .val (.long eb), .second, .val (.long eh), .second, .val (.ref b9), .val (.int gt), .unset] [(.long db), (.long eb)])) _
            refine XS.lcmp X15.here hx rfl (hb hby at_85) rfl ?_
            show Steps p.tables e below (T15.setTop (mkF m 86 #[.val (.long pp), .second, .val (.long qq), .second, .val (.long db), .second, .val (.long dh), .second, .val (.long fr), .second, .val (.int sel), .val (.long eb), .second, .val (.long eh), .second, .val (.ref b9), .val (.int gt), .unset] [(.int (lcmpW eb db))])) _
            refine XS.ifNo X15.here hx rfl (hb hby at_86) rfl ((if0 _ _).trans (teq hc86).2) ?_
            show Steps p.tables e below (T15.setTop (mkF m 89 #[.val (.long pp), .second, .val (.long qq), .second, .val (.long db), .second, .val (.long dh), .second, .val (.long fr), .second, .val (.int sel), .val (.long eb), .second, .val (.long eh), .second, .val (.ref b9), .val (.int gt), .unset] [])) _
            refine XS.lload X15.here hx rfl (hb hby at_89) rfl ?_
            show Steps p.tables e below (T15.setTop (mkF m 91 #[.val (.long pp), .second, .val (.long qq), .second, .val (.long db), .second, .val (.long dh), .second, .val (.long fr), .second, .val (.int sel), .val (.long eb), .second, .val (.long eh), .second, .val (.ref b9), .val (.int gt), .unset] [(.long eh)])) _
            refine XS.lload X15.here hx rfl (hb hby at_91) rfl ?_
            show Steps p.tables e below (T15.setTop (mkF m 93 #[.val (.long pp), .second, .val (.long qq), .second, .val (.long db), .second, .val (.long dh), .second, .val (.long fr), .second, .val (.int sel), .val (.long eb), .second, .val (.long eh), .second, .val (.ref b9), .val (.int gt), .unset] [(.long dh), (.long eh)])) _
            refine XS.lcmp X15.here hx rfl (hb hby at_93) rfl ?_
            show Steps p.tables e below (T15.setTop (mkF m 94 #[.val (.long pp), .second, .val (.long qq), .second, .val (.long db), .second, .val (.long dh), .second, .val (.long fr), .second, .val (.int sel), .val (.long eb), .second, .val (.long eh), .second, .val (.ref b9), .val (.int gt), .unset] [(.int (lcmpW eh dh))])) _
            refine XS.ifNo X15.here hx rfl (hb hby at_94) rfl ((if0 _ _).trans (feq hc94).1) ?_
            show Steps p.tables e below (T15.setTop (mkF m 97 #[.val (.long pp), .second, .val (.long qq), .second, .val (.long db), .second, .val (.long dh), .second, .val (.long fr), .second, .val (.int sel), .val (.long eb), .second, .val (.long eh), .second, .val (.ref b9), .val (.int gt), .unset] [])) _
            refine XS.lload X15.here hx rfl (hb hby at_97) rfl ?_
            show Steps p.tables e below (T15.setTop (mkF m 99 #[.val (.long pp), .second, .val (.long qq), .second, .val (.long db), .second, .val (.long dh), .second, .val (.long fr), .second, .val (.int sel), .val (.long eb), .second, .val (.long eh), .second, .val (.ref b9), .val (.int gt), .unset] [(.long eb)])) _
            refine XS.lconst X15.here hx rfl (hb hby at_99) ?_
            show Steps p.tables e below (T15.setTop (mkF m 100 #[.val (.long pp), .second, .val (.long qq), .second, .val (.long db), .second, .val (.long dh), .second, .val (.long fr), .second, .val (.int sel), .val (.long eb), .second, .val (.long eh), .second, .val (.ref b9), .val (.int gt), .unset] [(.long (0 : Int64)), (.long eb)])) _
            refine XS.lcmp X15.here hx rfl (hb hby at_100) rfl ?_
            show Steps p.tables e below (T15.setTop (mkF m 101 #[.val (.long pp), .second, .val (.long qq), .second, .val (.long db), .second, .val (.long dh), .second, .val (.long fr), .second, .val (.int sel), .val (.long eb), .second, .val (.long eh), .second, .val (.ref b9), .val (.int gt), .unset] [(.int (lcmpW eb (0 : Int64)))])) _
            refine XS.ifNo X15.here hx rfl (hb hby at_101) rfl ((if0 _ _).trans (teq hc101).2) ?_
            show Steps p.tables e below (T15.setTop (mkF m 104 #[.val (.long pp), .second, .val (.long qq), .second, .val (.long db), .second, .val (.long dh), .second, .val (.long fr), .second, .val (.int sel), .val (.long eb), .second, .val (.long eh), .second, .val (.ref b9), .val (.int gt), .unset] [])) _
            refine XS.lload X15.here hx rfl (hb hby at_104) rfl ?_
            show Steps p.tables e below (T15.setTop (mkF m 106 #[.val (.long pp), .second, .val (.long qq), .second, .val (.long db), .second, .val (.long dh), .second, .val (.long fr), .second, .val (.int sel), .val (.long eb), .second, .val (.long eh), .second, .val (.ref b9), .val (.int gt), .unset] [(.long eh)])) _
            refine XS.lconst X15.here hx rfl (hb hby at_106) ?_
            show Steps p.tables e below (T15.setTop (mkF m 107 #[.val (.long pp), .second, .val (.long qq), .second, .val (.long db), .second, .val (.long dh), .second, .val (.long fr), .second, .val (.int sel), .val (.long eb), .second, .val (.long eh), .second, .val (.ref b9), .val (.int gt), .unset] [(.long (0 : Int64)), (.long eh)])) _
            refine XS.lcmp X15.here hx rfl (hb hby at_107) rfl ?_
            show Steps p.tables e below (T15.setTop (mkF m 108 #[.val (.long pp), .second, .val (.long qq), .second, .val (.long db), .second, .val (.long dh), .second, .val (.long fr), .second, .val (.int sel), .val (.long eb), .second, .val (.long eh), .second, .val (.ref b9), .val (.int gt), .unset] [(.int (lcmpW eh (0 : Int64)))])) _
            refine XS.ifNo X15.here hx rfl (hb hby at_108) rfl ((if0 _ _).trans (teq hc108).2) ?_
            show Steps p.tables e below (T15.setTop (mkF m 111 #[.val (.long pp), .second, .val (.long qq), .second, .val (.long db), .second, .val (.long dh), .second, .val (.long fr), .second, .val (.int sel), .val (.long eb), .second, .val (.long eh), .second, .val (.ref b9), .val (.int gt), .unset] [])) _
            refine XS.iconst X15.here hx rfl (hb hby at_111) ?_
            show Steps p.tables e below (T15.setTop (mkF m 112 #[.val (.long pp), .second, .val (.long qq), .second, .val (.long db), .second, .val (.long dh), .second, .val (.long fr), .second, .val (.int sel), .val (.long eb), .second, .val (.long eh), .second, .val (.ref b9), .val (.int gt), .unset] [(.int (1 : Int32))])) _
            refine XS.goto X15.here hx rfl (pc0 := 112) (pc' := 116) rfl (hb hby at_112) (by decide) (by decide) ?_
            show Steps p.tables e below (T15.setTop (mkF m 116 #[.val (.long pp), .second, .val (.long qq), .second, .val (.long db), .second, .val (.long dh), .second, .val (.long fr), .second, .val (.int sel), .val (.long eb), .second, .val (.long eh), .second, .val (.ref b9), .val (.int gt), .unset] [(.int (1 : Int32))])) _
            refine XS.istore X15.here hx rfl (hb hby at_116) rfl (l' := #[.val (.long pp), .second, .val (.long qq), .second, .val (.long db), .second, .val (.long dh), .second, .val (.long fr), .second, .val (.int sel), .val (.long eb), .second, .val (.long eh), .second, .val (.ref b9), .val (.int gt), .val (.int (1 : Int32))]) rfl ?_
            exact k
          · skip
            refine ⟨(0 : Int32), (if_neg (fun hh => hh.elim (fun u => hc94 ((lw_eq _ _).mpr u.2)) (fun u => hc108 ((lw_eq _ _).mpr u.2)))).symm, fun t k => go17 t ?_⟩
            show Steps p.tables e below (T15.setTop (mkF m 81 #[.val (.long pp), .second, .val (.long qq), .second, .val (.long db), .second, .val (.long dh), .second, .val (.long fr), .second, .val (.int sel), .val (.long eb), .second, .val (.long eh), .second, .val (.ref b9), .val (.int gt), .unset] [])) _
            refine XS.lload X15.here hx rfl (hb hby at_81) rfl ?_
            show Steps p.tables e below (T15.setTop (mkF m 83 #[.val (.long pp), .second, .val (.long qq), .second, .val (.long db), .second, .val (.long dh), .second, .val (.long fr), .second, .val (.int sel), .val (.long eb), .second, .val (.long eh), .second, .val (.ref b9), .val (.int gt), .unset] [(.long eb)])) _
            refine XS.lload X15.here hx rfl (hb hby at_83) rfl ?_
            show Steps p.tables e below (T15.setTop (mkF m 85 #[.val (.long pp), .second, .val (.long qq), .second, .val (.long db), .second, .val (.long dh), .second, .val (.long fr), .second, .val (.int sel), .val (.long eb), .second, .val (.long eh), .second, .val (.ref b9), .val (.int gt), .unset] [(.long db), (.long eb)])) _
            refine XS.lcmp X15.here hx rfl (hb hby at_85) rfl ?_
            show Steps p.tables e below (T15.setTop (mkF m 86 #[.val (.long pp), .second, .val (.long qq), .second, .val (.long db), .second, .val (.long dh), .second, .val (.long fr), .second, .val (.int sel), .val (.long eb), .second, .val (.long eh), .second, .val (.ref b9), .val (.int gt), .unset] [(.int (lcmpW eb db))])) _
            refine XS.ifNo X15.here hx rfl (hb hby at_86) rfl ((if0 _ _).trans (teq hc86).2) ?_
            show Steps p.tables e below (T15.setTop (mkF m 89 #[.val (.long pp), .second, .val (.long qq), .second, .val (.long db), .second, .val (.long dh), .second, .val (.long fr), .second, .val (.int sel), .val (.long eb), .second, .val (.long eh), .second, .val (.ref b9), .val (.int gt), .unset] [])) _
            refine XS.lload X15.here hx rfl (hb hby at_89) rfl ?_
            show Steps p.tables e below (T15.setTop (mkF m 91 #[.val (.long pp), .second, .val (.long qq), .second, .val (.long db), .second, .val (.long dh), .second, .val (.long fr), .second, .val (.int sel), .val (.long eb), .second, .val (.long eh), .second, .val (.ref b9), .val (.int gt), .unset] [(.long eh)])) _
            refine XS.lload X15.here hx rfl (hb hby at_91) rfl ?_
            show Steps p.tables e below (T15.setTop (mkF m 93 #[.val (.long pp), .second, .val (.long qq), .second, .val (.long db), .second, .val (.long dh), .second, .val (.long fr), .second, .val (.int sel), .val (.long eb), .second, .val (.long eh), .second, .val (.ref b9), .val (.int gt), .unset] [(.long dh), (.long eh)])) _
            refine XS.lcmp X15.here hx rfl (hb hby at_93) rfl ?_
            show Steps p.tables e below (T15.setTop (mkF m 94 #[.val (.long pp), .second, .val (.long qq), .second, .val (.long db), .second, .val (.long dh), .second, .val (.long fr), .second, .val (.int sel), .val (.long eb), .second, .val (.long eh), .second, .val (.ref b9), .val (.int gt), .unset] [(.int (lcmpW eh dh))])) _
            refine XS.ifNo X15.here hx rfl (hb hby at_94) rfl ((if0 _ _).trans (feq hc94).1) ?_
            show Steps p.tables e below (T15.setTop (mkF m 97 #[.val (.long pp), .second, .val (.long qq), .second, .val (.long db), .second, .val (.long dh), .second, .val (.long fr), .second, .val (.int sel), .val (.long eb), .second, .val (.long eh), .second, .val (.ref b9), .val (.int gt), .unset] [])) _
            refine XS.lload X15.here hx rfl (hb hby at_97) rfl ?_
            show Steps p.tables e below (T15.setTop (mkF m 99 #[.val (.long pp), .second, .val (.long qq), .second, .val (.long db), .second, .val (.long dh), .second, .val (.long fr), .second, .val (.int sel), .val (.long eb), .second, .val (.long eh), .second, .val (.ref b9), .val (.int gt), .unset] [(.long eb)])) _
            refine XS.lconst X15.here hx rfl (hb hby at_99) ?_
            show Steps p.tables e below (T15.setTop (mkF m 100 #[.val (.long pp), .second, .val (.long qq), .second, .val (.long db), .second, .val (.long dh), .second, .val (.long fr), .second, .val (.int sel), .val (.long eb), .second, .val (.long eh), .second, .val (.ref b9), .val (.int gt), .unset] [(.long (0 : Int64)), (.long eb)])) _
            refine XS.lcmp X15.here hx rfl (hb hby at_100) rfl ?_
            show Steps p.tables e below (T15.setTop (mkF m 101 #[.val (.long pp), .second, .val (.long qq), .second, .val (.long db), .second, .val (.long dh), .second, .val (.long fr), .second, .val (.int sel), .val (.long eb), .second, .val (.long eh), .second, .val (.ref b9), .val (.int gt), .unset] [(.int (lcmpW eb (0 : Int64)))])) _
            refine XS.ifNo X15.here hx rfl (hb hby at_101) rfl ((if0 _ _).trans (teq hc101).2) ?_
            show Steps p.tables e below (T15.setTop (mkF m 104 #[.val (.long pp), .second, .val (.long qq), .second, .val (.long db), .second, .val (.long dh), .second, .val (.long fr), .second, .val (.int sel), .val (.long eb), .second, .val (.long eh), .second, .val (.ref b9), .val (.int gt), .unset] [])) _
            refine XS.lload X15.here hx rfl (hb hby at_104) rfl ?_
            show Steps p.tables e below (T15.setTop (mkF m 106 #[.val (.long pp), .second, .val (.long qq), .second, .val (.long db), .second, .val (.long dh), .second, .val (.long fr), .second, .val (.int sel), .val (.long eb), .second, .val (.long eh), .second, .val (.ref b9), .val (.int gt), .unset] [(.long eh)])) _
            refine XS.lconst X15.here hx rfl (hb hby at_106) ?_
            show Steps p.tables e below (T15.setTop (mkF m 107 #[.val (.long pp), .second, .val (.long qq), .second, .val (.long db), .second, .val (.long dh), .second, .val (.long fr), .second, .val (.int sel), .val (.long eb), .second, .val (.long eh), .second, .val (.ref b9), .val (.int gt), .unset] [(.long (0 : Int64)), (.long eh)])) _
            refine XS.lcmp X15.here hx rfl (hb hby at_107) rfl ?_
            show Steps p.tables e below (T15.setTop (mkF m 108 #[.val (.long pp), .second, .val (.long qq), .second, .val (.long db), .second, .val (.long dh), .second, .val (.long fr), .second, .val (.int sel), .val (.long eb), .second, .val (.long eh), .second, .val (.ref b9), .val (.int gt), .unset] [(.int (lcmpW eh (0 : Int64)))])) _
            refine XS.ifYes X15.here hx rfl (pc0 := 108) (pc' := 115) rfl (hb hby at_108) rfl ((if0 _ _).trans (feq hc108).2) (by decide) (by decide) ?_
            show Steps p.tables e below (T15.setTop (mkF m 115 #[.val (.long pp), .second, .val (.long qq), .second, .val (.long db), .second, .val (.long dh), .second, .val (.long fr), .second, .val (.int sel), .val (.long eb), .second, .val (.long eh), .second, .val (.ref b9), .val (.int gt), .unset] [])) _
            refine XS.iconst X15.here hx rfl (hb hby at_115) ?_
            show Steps p.tables e below (T15.setTop (mkF m 116 #[.val (.long pp), .second, .val (.long qq), .second, .val (.long db), .second, .val (.long dh), .second, .val (.long fr), .second, .val (.int sel), .val (.long eb), .second, .val (.long eh), .second, .val (.ref b9), .val (.int gt), .unset] [(.int (0 : Int32))])) _
            refine XS.istore X15.here hx rfl (hb hby at_116) rfl (l' := #[.val (.long pp), .second, .val (.long qq), .second, .val (.long db), .second, .val (.long dh), .second, .val (.long fr), .second, .val (.int sel), .val (.long eb), .second, .val (.long eh), .second, .val (.ref b9), .val (.int gt), .val (.int (0 : Int32))]) rfl ?_
            exact k
        · skip
          refine ⟨(0 : Int32), (if_neg (fun hh => hh.elim (fun u => hc94 ((lw_eq _ _).mpr u.2)) (fun u => hc101 ((lw_eq _ _).mpr u.1)))).symm, fun t k => go17 t ?_⟩
          show Steps p.tables e below (T15.setTop (mkF m 81 #[.val (.long pp), .second, .val (.long qq), .second, .val (.long db), .second, .val (.long dh), .second, .val (.long fr), .second, .val (.int sel), .val (.long eb), .second, .val (.long eh), .second, .val (.ref b9), .val (.int gt), .unset] [])) _
          refine XS.lload X15.here hx rfl (hb hby at_81) rfl ?_
          show Steps p.tables e below (T15.setTop (mkF m 83 #[.val (.long pp), .second, .val (.long qq), .second, .val (.long db), .second, .val (.long dh), .second, .val (.long fr), .second, .val (.int sel), .val (.long eb), .second, .val (.long eh), .second, .val (.ref b9), .val (.int gt), .unset] [(.long eb)])) _
          refine XS.lload X15.here hx rfl (hb hby at_83) rfl ?_
          show Steps p.tables e below (T15.setTop (mkF m 85 #[.val (.long pp), .second, .val (.long qq), .second, .val (.long db), .second, .val (.long dh), .second, .val (.long fr), .second, .val (.int sel), .val (.long eb), .second, .val (.long eh), .second, .val (.ref b9), .val (.int gt), .unset] [(.long db), (.long eb)])) _
          refine XS.lcmp X15.here hx rfl (hb hby at_85) rfl ?_
          show Steps p.tables e below (T15.setTop (mkF m 86 #[.val (.long pp), .second, .val (.long qq), .second, .val (.long db), .second, .val (.long dh), .second, .val (.long fr), .second, .val (.int sel), .val (.long eb), .second, .val (.long eh), .second, .val (.ref b9), .val (.int gt), .unset] [(.int (lcmpW eb db))])) _
          refine XS.ifNo X15.here hx rfl (hb hby at_86) rfl ((if0 _ _).trans (teq hc86).2) ?_
          show Steps p.tables e below (T15.setTop (mkF m 89 #[.val (.long pp), .second, .val (.long qq), .second, .val (.long db), .second, .val (.long dh), .second, .val (.long fr), .second, .val (.int sel), .val (.long eb), .second, .val (.long eh), .second, .val (.ref b9), .val (.int gt), .unset] [])) _
          refine XS.lload X15.here hx rfl (hb hby at_89) rfl ?_
          show Steps p.tables e below (T15.setTop (mkF m 91 #[.val (.long pp), .second, .val (.long qq), .second, .val (.long db), .second, .val (.long dh), .second, .val (.long fr), .second, .val (.int sel), .val (.long eb), .second, .val (.long eh), .second, .val (.ref b9), .val (.int gt), .unset] [(.long eh)])) _
          refine XS.lload X15.here hx rfl (hb hby at_91) rfl ?_
          show Steps p.tables e below (T15.setTop (mkF m 93 #[.val (.long pp), .second, .val (.long qq), .second, .val (.long db), .second, .val (.long dh), .second, .val (.long fr), .second, .val (.int sel), .val (.long eb), .second, .val (.long eh), .second, .val (.ref b9), .val (.int gt), .unset] [(.long dh), (.long eh)])) _
          refine XS.lcmp X15.here hx rfl (hb hby at_93) rfl ?_
          show Steps p.tables e below (T15.setTop (mkF m 94 #[.val (.long pp), .second, .val (.long qq), .second, .val (.long db), .second, .val (.long dh), .second, .val (.long fr), .second, .val (.int sel), .val (.long eb), .second, .val (.long eh), .second, .val (.ref b9), .val (.int gt), .unset] [(.int (lcmpW eh dh))])) _
          refine XS.ifNo X15.here hx rfl (hb hby at_94) rfl ((if0 _ _).trans (feq hc94).1) ?_
          show Steps p.tables e below (T15.setTop (mkF m 97 #[.val (.long pp), .second, .val (.long qq), .second, .val (.long db), .second, .val (.long dh), .second, .val (.long fr), .second, .val (.int sel), .val (.long eb), .second, .val (.long eh), .second, .val (.ref b9), .val (.int gt), .unset] [])) _
          refine XS.lload X15.here hx rfl (hb hby at_97) rfl ?_
          show Steps p.tables e below (T15.setTop (mkF m 99 #[.val (.long pp), .second, .val (.long qq), .second, .val (.long db), .second, .val (.long dh), .second, .val (.long fr), .second, .val (.int sel), .val (.long eb), .second, .val (.long eh), .second, .val (.ref b9), .val (.int gt), .unset] [(.long eb)])) _
          refine XS.lconst X15.here hx rfl (hb hby at_99) ?_
          show Steps p.tables e below (T15.setTop (mkF m 100 #[.val (.long pp), .second, .val (.long qq), .second, .val (.long db), .second, .val (.long dh), .second, .val (.long fr), .second, .val (.int sel), .val (.long eb), .second, .val (.long eh), .second, .val (.ref b9), .val (.int gt), .unset] [(.long (0 : Int64)), (.long eb)])) _
          refine XS.lcmp X15.here hx rfl (hb hby at_100) rfl ?_
          show Steps p.tables e below (T15.setTop (mkF m 101 #[.val (.long pp), .second, .val (.long qq), .second, .val (.long db), .second, .val (.long dh), .second, .val (.long fr), .second, .val (.int sel), .val (.long eb), .second, .val (.long eh), .second, .val (.ref b9), .val (.int gt), .unset] [(.int (lcmpW eb (0 : Int64)))])) _
          refine XS.ifYes X15.here hx rfl (pc0 := 101) (pc' := 115) rfl (hb hby at_101) rfl ((if0 _ _).trans (feq hc101).2) (by decide) (by decide) ?_
          show Steps p.tables e below (T15.setTop (mkF m 115 #[.val (.long pp), .second, .val (.long qq), .second, .val (.long db), .second, .val (.long dh), .second, .val (.long fr), .second, .val (.int sel), .val (.long eb), .second, .val (.long eh), .second, .val (.ref b9), .val (.int gt), .unset] [])) _
          refine XS.iconst X15.here hx rfl (hb hby at_115) ?_
          show Steps p.tables e below (T15.setTop (mkF m 116 #[.val (.long pp), .second, .val (.long qq), .second, .val (.long db), .second, .val (.long dh), .second, .val (.long fr), .second, .val (.int sel), .val (.long eb), .second, .val (.long eh), .second, .val (.ref b9), .val (.int gt), .unset] [(.int (0 : Int32))])) _
          refine XS.istore X15.here hx rfl (hb hby at_116) rfl (l' := #[.val (.long pp), .second, .val (.long qq), .second, .val (.long db), .second, .val (.long dh), .second, .val (.long fr), .second, .val (.int sel), .val (.long eb), .second, .val (.long eh), .second, .val (.ref b9), .val (.int gt), .val (.int (0 : Int32))]) rfl ?_
          exact k
    · skip
      by_cases hc101 : (lcmpW eb (0 : Int64)) = (0 : Int32)
      · skip
        by_cases hc108 : (lcmpW eh (0 : Int64)) = (0 : Int32)
        · skip
          refine ⟨(1 : Int32), (if_pos (Or.inr ⟨((lw_eq _ _).mp hc101), ((lw_eq _ _).mp hc108)⟩)).symm, fun t k => go17 t ?_⟩
          show Steps p.tables e below (T15.setTop (mkF m 81 #[.val (.long pp), .second, .val (.long qq), .second, .val (.long db), .second, .val (.long dh), .second, .val (.long fr), .second, .val (.int sel), .val (.long eb), .second, .val (.long eh), .second, .val (.ref b9), .val (.int gt), .unset] [])) _
          refine XS.lload X15.here hx rfl (hb hby at_81) rfl ?_
          show Steps p.tables e below (T15.setTop (mkF m 83 #[.val (.long pp), .second, .val (.long qq), .second, .val (.long db), .second, .val (.long dh), .second, .val (.long fr), .second, .val (.int sel), .val (.long eb), .second, .val (.long eh), .second, .val (.ref b9), .val (.int gt), .unset] [(.long eb)])) _
          refine XS.lload X15.here hx rfl (hb hby at_83) rfl ?_
          show Steps p.tables e below (T15.setTop (mkF m 85 #[.val (.long pp), .second, .val (.long qq), .second, .val (.long db), .second, .val (.long dh), .second, .val (.long fr), .second, .val (.int sel), .val (.long eb), .second, .val (.long eh), .second, .val (.ref b9), .val (.int gt), .unset] [(.long db), (.long eb)])) _
          refine XS.lcmp X15.here hx rfl (hb hby at_85) rfl ?_
          show Steps p.tables e below (T15.setTop (mkF m 86 #[.val (.long pp), .second, .val (.long qq), .second, .val (.long db), .second, .val (.long dh), .second, .val (.long fr), .second, .val (.int sel), .val (.long eb), .second, .val (.long eh), .second, .val (.ref b9), .val (.int gt), .unset] [(.int (lcmpW eb db))])) _
          refine XS.ifYes X15.here hx rfl (pc0 := 86) (pc' := 97) rfl (hb hby at_86) rfl ((if0 _ _).trans (feq hc86).2) (by decide) (by decide) ?_
          show Steps p.tables e below (T15.setTop (mkF m 97 #[.val (.long pp), .second, .val (.long qq), .second, .val (.long db), .second, .val (.long dh), .second, .val (.long fr), .second, .val (.int sel), .val (.long eb), .second, .val (.long eh), .second, .val (.ref b9), .val (.int gt), .unset] [])) _
          refine XS.lload X15.here hx rfl (hb hby at_97) rfl ?_
          show Steps p.tables e below (T15.setTop (mkF m 99 #[.val (.long pp), .second, .val (.long qq), .second, .val (.long db), .second, .val (.long dh), .second, .val (.long fr), .second, .val (.int sel), .val (.long eb), .second, .val (.long eh), .second, .val (.ref b9), .val (.int gt), .unset] [(.long eb)])) _
          refine XS.lconst X15.here hx rfl (hb hby at_99) ?_
          show Steps p.tables e below (T15.setTop (mkF m 100 #[.val (.long pp), .second, .val (.long qq), .second, .val (.long db), .second, .val (.long dh), .second, .val (.long fr), .second, .val (.int sel), .val (.long eb), .second, .val (.long eh), .second, .val (.ref b9), .val (.int gt), .unset] [(.long (0 : Int64)), (.long eb)])) _
          refine XS.lcmp X15.here hx rfl (hb hby at_100) rfl ?_
          show Steps p.tables e below (T15.setTop (mkF m 101 #[.val (.long pp), .second, .val (.long qq), .second, .val (.long db), .second, .val (.long dh), .second, .val (.long fr), .second, .val (.int sel), .val (.long eb), .second, .val (.long eh), .second, .val (.ref b9), .val (.int gt), .unset] [(.int (lcmpW eb (0 : Int64)))])) _
          refine XS.ifNo X15.here hx rfl (hb hby at_101) rfl ((if0 _ _).trans (teq hc101).2) ?_
          show Steps p.tables e below (T15.setTop (mkF m 104 #[.val (.long pp), .second, .val (.long qq), .second, .val (.long db), .second, .val (.long dh), .second, .val (.long fr), .second, .val (.int sel), .val (.long eb), .second, .val (.long eh), .second, .val (.ref b9), .val (.int gt), .unset] [])) _
          refine XS.lload X15.here hx rfl (hb hby at_104) rfl ?_
          show Steps p.tables e below (T15.setTop (mkF m 106 #[.val (.long pp), .second, .val (.long qq), .second, .val (.long db), .second, .val (.long dh), .second, .val (.long fr), .second, .val (.int sel), .val (.long eb), .second, .val (.long eh), .second, .val (.ref b9), .val (.int gt), .unset] [(.long eh)])) _
          refine XS.lconst X15.here hx rfl (hb hby at_106) ?_
          show Steps p.tables e below (T15.setTop (mkF m 107 #[.val (.long pp), .second, .val (.long qq), .second, .val (.long db), .second, .val (.long dh), .second, .val (.long fr), .second, .val (.int sel), .val (.long eb), .second, .val (.long eh), .second, .val (.ref b9), .val (.int gt), .unset] [(.long (0 : Int64)), (.long eh)])) _
          refine XS.lcmp X15.here hx rfl (hb hby at_107) rfl ?_
          show Steps p.tables e below (T15.setTop (mkF m 108 #[.val (.long pp), .second, .val (.long qq), .second, .val (.long db), .second, .val (.long dh), .second, .val (.long fr), .second, .val (.int sel), .val (.long eb), .second, .val (.long eh), .second, .val (.ref b9), .val (.int gt), .unset] [(.int (lcmpW eh (0 : Int64)))])) _
          refine XS.ifNo X15.here hx rfl (hb hby at_108) rfl ((if0 _ _).trans (teq hc108).2) ?_
          show Steps p.tables e below (T15.setTop (mkF m 111 #[.val (.long pp), .second, .val (.long qq), .second, .val (.long db), .second, .val (.long dh), .second, .val (.long fr), .second, .val (.int sel), .val (.long eb), .second, .val (.long eh), .second, .val (.ref b9), .val (.int gt), .unset] [])) _
          refine XS.iconst X15.here hx rfl (hb hby at_111) ?_
          show Steps p.tables e below (T15.setTop (mkF m 112 #[.val (.long pp), .second, .val (.long qq), .second, .val (.long db), .second, .val (.long dh), .second, .val (.long fr), .second, .val (.int sel), .val (.long eb), .second, .val (.long eh), .second, .val (.ref b9), .val (.int gt), .unset] [(.int (1 : Int32))])) _
          refine XS.goto X15.here hx rfl (pc0 := 112) (pc' := 116) rfl (hb hby at_112) (by decide) (by decide) ?_
          show Steps p.tables e below (T15.setTop (mkF m 116 #[.val (.long pp), .second, .val (.long qq), .second, .val (.long db), .second, .val (.long dh), .second, .val (.long fr), .second, .val (.int sel), .val (.long eb), .second, .val (.long eh), .second, .val (.ref b9), .val (.int gt), .unset] [(.int (1 : Int32))])) _
          refine XS.istore X15.here hx rfl (hb hby at_116) rfl (l' := #[.val (.long pp), .second, .val (.long qq), .second, .val (.long db), .second, .val (.long dh), .second, .val (.long fr), .second, .val (.int sel), .val (.long eb), .second, .val (.long eh), .second, .val (.ref b9), .val (.int gt), .val (.int (1 : Int32))]) rfl ?_
          exact k
        · skip
          refine ⟨(0 : Int32), (if_neg (fun hh => hh.elim (fun u => hc86 ((lw_eq _ _).mpr u.1)) (fun u => hc108 ((lw_eq _ _).mpr u.2)))).symm, fun t k => go17 t ?_⟩
          show Steps p.tables e below (T15.setTop (mkF m 81 #[.val (.long pp), .second, .val (.long qq), .second, .val (.long db), .second, .val (.long dh), .second, .val (.long fr), .second, .val (.int sel), .val (.long eb), .second, .val (.long eh), .second, .val (.ref b9), .val (.int gt), .unset] [])) _
          refine XS.lload X15.here hx rfl (hb hby at_81) rfl ?_
          show Steps p.tables e below (T15.setTop (mkF m 83 #[.val (.long pp), .second, .val (.long qq), .second, .val (.long db), .second, .val (.long dh), .second, .val (.long fr), .second, .val (.int sel), .val (.long eb), .second, .val (.long eh), .second, .val (.ref b9), .val (.int gt), .unset] [(.long eb)])) _
          refine XS.lload X15.here hx rfl (hb hby at_83) rfl ?_
          show Steps p.tables e below (T15.setTop (mkF m 85 #[.val (.long pp), .second, .val (.long qq), .second, .val (.long db), .second, .val (.long dh), .second, .val (.long fr), .second, .val (.int sel), .val (.long eb), .second, .val (.long eh), .second, .val (.ref b9), .val (.int gt), .unset] [(.long db), (.long eb)])) _
          refine XS.lcmp X15.here hx rfl (hb hby at_85) rfl ?_
          show Steps p.tables e below (T15.setTop (mkF m 86 #[.val (.long pp), .second, .val (.long qq), .second, .val (.long db), .second, .val (.long dh), .second, .val (.long fr), .second, .val (.int sel), .val (.long eb), .second, .val (.long eh), .second, .val (.ref b9), .val (.int gt), .unset] [(.int (lcmpW eb db))])) _
          refine XS.ifYes X15.here hx rfl (pc0 := 86) (pc' := 97) rfl (hb hby at_86) rfl ((if0 _ _).trans (feq hc86).2) (by decide) (by decide) ?_
          show Steps p.tables e below (T15.setTop (mkF m 97 #[.val (.long pp), .second, .val (.long qq), .second, .val (.long db), .second, .val (.long dh), .second, .val (.long fr), .second, .val (.int sel), .val (.long eb), .second, .val (.long eh), .second, .val (.ref b9), .val (.int gt), .unset] [])) _
          refine XS.lload X15.here hx rfl (hb hby at_97) rfl ?_
          show Steps p.tables e below (T15.setTop (mkF m 99 #[.val (.long pp), .second, .val (.long qq), .second, .val (.long db), .second, .val (.long dh), .second, .val (.long fr), .second, .val (.int sel), .val (.long eb), .second, .val (.long eh), .second, .val (.ref b9), .val (.int gt), .unset] [(.long eb)])) _
          refine XS.lconst X15.here hx rfl (hb hby at_99) ?_
          show Steps p.tables e below (T15.setTop (mkF m 100 #[.val (.long pp), .second, .val (.long qq), .second, .val (.long db), .second, .val (.long dh), .second, .val (.long fr), .second, .val (.int sel), .val (.long eb), .second, .val (.long eh), .second, .val (.ref b9), .val (.int gt), .unset] [(.long (0 : Int64)), (.long eb)])) _
          refine XS.lcmp X15.here hx rfl (hb hby at_100) rfl ?_
          show Steps p.tables e below (T15.setTop (mkF m 101 #[.val (.long pp), .second, .val (.long qq), .second, .val (.long db), .second, .val (.long dh), .second, .val (.long fr), .second, .val (.int sel), .val (.long eb), .second, .val (.long eh), .second, .val (.ref b9), .val (.int gt), .unset] [(.int (lcmpW eb (0 : Int64)))])) _
          refine XS.ifNo X15.here hx rfl (hb hby at_101) rfl ((if0 _ _).trans (teq hc101).2) ?_
          show Steps p.tables e below (T15.setTop (mkF m 104 #[.val (.long pp), .second, .val (.long qq), .second, .val (.long db), .second, .val (.long dh), .second, .val (.long fr), .second, .val (.int sel), .val (.long eb), .second, .val (.long eh), .second, .val (.ref b9), .val (.int gt), .unset] [])) _
          refine XS.lload X15.here hx rfl (hb hby at_104) rfl ?_
          show Steps p.tables e below (T15.setTop (mkF m 106 #[.val (.long pp), .second, .val (.long qq), .second, .val (.long db), .second, .val (.long dh), .second, .val (.long fr), .second, .val (.int sel), .val (.long eb), .second, .val (.long eh), .second, .val (.ref b9), .val (.int gt), .unset] [(.long eh)])) _
          refine XS.lconst X15.here hx rfl (hb hby at_106) ?_
          show Steps p.tables e below (T15.setTop (mkF m 107 #[.val (.long pp), .second, .val (.long qq), .second, .val (.long db), .second, .val (.long dh), .second, .val (.long fr), .second, .val (.int sel), .val (.long eb), .second, .val (.long eh), .second, .val (.ref b9), .val (.int gt), .unset] [(.long (0 : Int64)), (.long eh)])) _
          refine XS.lcmp X15.here hx rfl (hb hby at_107) rfl ?_
          show Steps p.tables e below (T15.setTop (mkF m 108 #[.val (.long pp), .second, .val (.long qq), .second, .val (.long db), .second, .val (.long dh), .second, .val (.long fr), .second, .val (.int sel), .val (.long eb), .second, .val (.long eh), .second, .val (.ref b9), .val (.int gt), .unset] [(.int (lcmpW eh (0 : Int64)))])) _
          refine XS.ifYes X15.here hx rfl (pc0 := 108) (pc' := 115) rfl (hb hby at_108) rfl ((if0 _ _).trans (feq hc108).2) (by decide) (by decide) ?_
          show Steps p.tables e below (T15.setTop (mkF m 115 #[.val (.long pp), .second, .val (.long qq), .second, .val (.long db), .second, .val (.long dh), .second, .val (.long fr), .second, .val (.int sel), .val (.long eb), .second, .val (.long eh), .second, .val (.ref b9), .val (.int gt), .unset] [])) _
          refine XS.iconst X15.here hx rfl (hb hby at_115) ?_
          show Steps p.tables e below (T15.setTop (mkF m 116 #[.val (.long pp), .second, .val (.long qq), .second, .val (.long db), .second, .val (.long dh), .second, .val (.long fr), .second, .val (.int sel), .val (.long eb), .second, .val (.long eh), .second, .val (.ref b9), .val (.int gt), .unset] [(.int (0 : Int32))])) _
          refine XS.istore X15.here hx rfl (hb hby at_116) rfl (l' := #[.val (.long pp), .second, .val (.long qq), .second, .val (.long db), .second, .val (.long dh), .second, .val (.long fr), .second, .val (.int sel), .val (.long eb), .second, .val (.long eh), .second, .val (.ref b9), .val (.int gt), .val (.int (0 : Int32))]) rfl ?_
          exact k
      · skip
        refine ⟨(0 : Int32), (if_neg (fun hh => hh.elim (fun u => hc86 ((lw_eq _ _).mpr u.1)) (fun u => hc101 ((lw_eq _ _).mpr u.1)))).symm, fun t k => go17 t ?_⟩
        show Steps p.tables e below (T15.setTop (mkF m 81 #[.val (.long pp), .second, .val (.long qq), .second, .val (.long db), .second, .val (.long dh), .second, .val (.long fr), .second, .val (.int sel), .val (.long eb), .second, .val (.long eh), .second, .val (.ref b9), .val (.int gt), .unset] [])) _
        refine XS.lload X15.here hx rfl (hb hby at_81) rfl ?_
        show Steps p.tables e below (T15.setTop (mkF m 83 #[.val (.long pp), .second, .val (.long qq), .second, .val (.long db), .second, .val (.long dh), .second, .val (.long fr), .second, .val (.int sel), .val (.long eb), .second, .val (.long eh), .second, .val (.ref b9), .val (.int gt), .unset] [(.long eb)])) _
        refine XS.lload X15.here hx rfl (hb hby at_83) rfl ?_
        show Steps p.tables e below (T15.setTop (mkF m 85 #[.val (.long pp), .second, .val (.long qq), .second, .val (.long db), .second, .val (.long dh), .second, .val (.long fr), .second, .val (.int sel), .val (.long eb), .second, .val (.long eh), .second, .val (.ref b9), .val (.int gt), .unset] [(.long db), (.long eb)])) _
        refine XS.lcmp X15.here hx rfl (hb hby at_85) rfl ?_
        show Steps p.tables e below (T15.setTop (mkF m 86 #[.val (.long pp), .second, .val (.long qq), .second, .val (.long db), .second, .val (.long dh), .second, .val (.long fr), .second, .val (.int sel), .val (.long eb), .second, .val (.long eh), .second, .val (.ref b9), .val (.int gt), .unset] [(.int (lcmpW eb db))])) _
        refine XS.ifYes X15.here hx rfl (pc0 := 86) (pc' := 97) rfl (hb hby at_86) rfl ((if0 _ _).trans (feq hc86).2) (by decide) (by decide) ?_
        show Steps p.tables e below (T15.setTop (mkF m 97 #[.val (.long pp), .second, .val (.long qq), .second, .val (.long db), .second, .val (.long dh), .second, .val (.long fr), .second, .val (.int sel), .val (.long eb), .second, .val (.long eh), .second, .val (.ref b9), .val (.int gt), .unset] [])) _
        refine XS.lload X15.here hx rfl (hb hby at_97) rfl ?_
        show Steps p.tables e below (T15.setTop (mkF m 99 #[.val (.long pp), .second, .val (.long qq), .second, .val (.long db), .second, .val (.long dh), .second, .val (.long fr), .second, .val (.int sel), .val (.long eb), .second, .val (.long eh), .second, .val (.ref b9), .val (.int gt), .unset] [(.long eb)])) _
        refine XS.lconst X15.here hx rfl (hb hby at_99) ?_
        show Steps p.tables e below (T15.setTop (mkF m 100 #[.val (.long pp), .second, .val (.long qq), .second, .val (.long db), .second, .val (.long dh), .second, .val (.long fr), .second, .val (.int sel), .val (.long eb), .second, .val (.long eh), .second, .val (.ref b9), .val (.int gt), .unset] [(.long (0 : Int64)), (.long eb)])) _
        refine XS.lcmp X15.here hx rfl (hb hby at_100) rfl ?_
        show Steps p.tables e below (T15.setTop (mkF m 101 #[.val (.long pp), .second, .val (.long qq), .second, .val (.long db), .second, .val (.long dh), .second, .val (.long fr), .second, .val (.int sel), .val (.long eb), .second, .val (.long eh), .second, .val (.ref b9), .val (.int gt), .unset] [(.int (lcmpW eb (0 : Int64)))])) _
        refine XS.ifYes X15.here hx rfl (pc0 := 101) (pc' := 115) rfl (hb hby at_101) rfl ((if0 _ _).trans (feq hc101).2) (by decide) (by decide) ?_
        show Steps p.tables e below (T15.setTop (mkF m 115 #[.val (.long pp), .second, .val (.long qq), .second, .val (.long db), .second, .val (.long dh), .second, .val (.long fr), .second, .val (.int sel), .val (.long eb), .second, .val (.long eh), .second, .val (.ref b9), .val (.int gt), .unset] [])) _
        refine XS.iconst X15.here hx rfl (hb hby at_115) ?_
        show Steps p.tables e below (T15.setTop (mkF m 116 #[.val (.long pp), .second, .val (.long qq), .second, .val (.long db), .second, .val (.long dh), .second, .val (.long fr), .second, .val (.int sel), .val (.long eb), .second, .val (.long eh), .second, .val (.ref b9), .val (.int gt), .unset] [(.int (0 : Int32))])) _
        refine XS.istore X15.here hx rfl (hb hby at_116) rfl (l' := #[.val (.long pp), .second, .val (.long qq), .second, .val (.long db), .second, .val (.long dh), .second, .val (.long fr), .second, .val (.int sel), .val (.long eb), .second, .val (.long eh), .second, .val (.ref b9), .val (.int gt), .val (.int (0 : Int32))]) rfl ?_
        exact k
  have go20 : ∀ t, Steps p.tables e below (T15.setTop (mkF m 130 #[.val (.long pp), .second, .val (.long qq), .second, .val (.long db), .second, .val (.long dh), .second, .val (.long fr), .second, .val (.int sel), .val (.long eb), .second, .val (.long eh), .second, .val (.ref b9), .val (.int gt), .val (.int ex)] [(.int (1 : Int32))])) t → Steps p.tables e below (s₁.setTop (entryFrame m #[(.long pp), (.long qq), (.long db), (.long dh), (.long fr), (.int sel)] maxLocals)) t := by
    intro t k
    refine go18 t ?_
    show Steps p.tables e below (T15.setTop (mkF m 118 #[.val (.long pp), .second, .val (.long qq), .second, .val (.long db), .second, .val (.long dh), .second, .val (.long fr), .second, .val (.int sel), .val (.long eb), .second, .val (.long eh), .second, .val (.ref b9), .val (.int gt), .val (.int ex)] [])) _
    refine XS.iload X15.here hx rfl (hb hby at_118) rfl ?_
    show Steps p.tables e below (T15.setTop (mkF m 120 #[.val (.long pp), .second, .val (.long qq), .second, .val (.long db), .second, .val (.long dh), .second, .val (.long fr), .second, .val (.int sel), .val (.long eb), .second, .val (.long eh), .second, .val (.ref b9), .val (.int gt), .val (.int ex)] [(.int gt)])) _
    refine XS.iload X15.here hx rfl (hb hby at_120) rfl ?_
    show Steps p.tables e below (T15.setTop (mkF m 122 #[.val (.long pp), .second, .val (.long qq), .second, .val (.long db), .second, .val (.long dh), .second, .val (.long fr), .second, .val (.int sel), .val (.long eb), .second, .val (.long eh), .second, .val (.ref b9), .val (.int gt), .val (.int ex)] [(.int ex), (.int gt)])) _
    refine XS.icmpNo X15.here hx rfl (hb hby at_122) rfl (teq (h_gt.trans ((own_got pp qq db dh eb eh).trans hp19.symm))).2 ?_
    show Steps p.tables e below (T15.setTop (mkF m 125 #[.val (.long pp), .second, .val (.long qq), .second, .val (.long db), .second, .val (.long dh), .second, .val (.long fr), .second, .val (.int sel), .val (.long eb), .second, .val (.long eh), .second, .val (.ref b9), .val (.int gt), .val (.int ex)] [])) _
    refine XS.iconst X15.here hx rfl (hb hby at_125) ?_
    show Steps p.tables e below (T15.setTop (mkF m 126 #[.val (.long pp), .second, .val (.long qq), .second, .val (.long db), .second, .val (.long dh), .second, .val (.long fr), .second, .val (.int sel), .val (.long eb), .second, .val (.long eh), .second, .val (.ref b9), .val (.int gt), .val (.int ex)] [(.int (1 : Int32))])) _
    refine XS.goto X15.here hx rfl (pc0 := 126) (pc' := 130) rfl (hb hby at_126) (by decide) (by decide) ?_
    exact k
  obtain ⟨fs, hr, hrun, hended, hW, hsame⟩ := X15.leave (v := some (.int (1 : Int32))) (fun h => by rw [Bd.returns] at h; cases h)
  refine ⟨_, _, go20 _ ?_, hrun, hended, _, _, rfl, ?_, ⟨_, rfl⟩, hW, hsame.mono (by decide) (by decide)⟩
  · show Steps p.tables e below (T15.setTop (mkF m 130 #[.val (.long pp), .second, .val (.long qq), .second, .val (.long db), .second, .val (.long dh), .second, .val (.long fr), .second, .val (.int sel), .val (.long eb), .second, .val (.long eh), .second, .val (.ref b9), .val (.int gt), .val (.int ex)] [(.int (1 : Int32))])) _
    exact retN X15 hx (t := .boolean) Bd.returns (by simp) (hb hby at_130) hr
  · show Q0 Z pp qq db dh fr sel h0 n0 _ T15.heap _
    rw [e15]
    exact ⟨rfl, N15⟩
set_option maxRecDepth 65536 in
set_option maxHeartbeats 40000000 in
theorem comes_1 {Post : Tables → Env → Array Value → State → Outcome → State → Prop} (hpost : ∀ tb e args s v u, (limb_1_1.after args s (.returned v) u = true ∧ limb_1_2.after args s (.returned v) u = true ∧ True) → FrameEnd s (.returned v) u (Jvm.fieldLocs frame_1_writes args s ++ Jvm.arrayLocs frame_1_arrays args s ++ Jvm.staticLocs frame_1_statics s) 16 128 → Post tb e args s (.returned v) u) :
    ArmFor flags0 classFile x code maxLocals ret World_1 tables_1 room_1 Calls_1 rest_1 Pre_1 Post := by
  intro l hfl _ _ p e ha hc hk s m args below hf hA hF happ hP
  obtain ⟨hcalls, hrest, hpre⟩ := hP
  obtain ⟨-, -, -, hnamed, -, -, -, hat⟩ := (Spec.applies_iff hf).mp happ
  obtain ⟨hg, hn⟩ := and_e (Cond.before_iff.mp (show (Jvm.Cond.and given_1 narrow_1).before args s = true from hpre))
  obtain ⟨gc, r0⟩ := and_e hg
  obtain ⟨g0, r1⟩ := and_e r0
  obtain ⟨g1, r2⟩ := and_e r1
  obtain ⟨g2, r3⟩ := and_e r2
  obtain ⟨g3, r4⟩ := and_e r3
  obtain ⟨g4, r5⟩ := and_e r4
  obtain ⟨w0, w1, w2, w3, w4, w5, rfl⟩ : ∃ w0 w1 w2 w3 w4 w5 : Value, args = #[w0, w1, w2, w3, w4, w5] := by
    have hs : args.size = 6 := by simpa [Cond.value, given_1] using gc
    obtain ⟨L⟩ := args
    match L, hs with
    | [w0, w1, w2, w3, w4, w5], _ => exact ⟨w0, w1, w2, w3, w4, w5, rfl⟩
  have hw := fun d (hd : d ∈ tables_1) => atoms_spec (ws := Jvm.Cond.code x code maxLocals ret :: tables_1) hat d (List.mem_cons_of_mem _ hd)
  obtain ⟨i0, ei0⟩ := isL_v g0
  obtain rfl : w0 = (.long i0) := Option.some.inj ei0
  obtain ⟨i1, ei1⟩ := isL_v g1
  obtain rfl : w1 = (.long i1) := Option.some.inj ei1
  obtain ⟨i2, ei2⟩ := isL_v g2
  obtain rfl : w2 = (.long i2) := Option.some.inj ei2
  obtain ⟨i3, ei3⟩ := isL_v g3
  obtain rfl : w3 = (.long i3) := Option.some.inj ei3
  obtain ⟨i4, ei4⟩ := isL_v g4
  obtain rfl : w4 = (.long i4) := Option.some.inj ei4
  obtain ⟨i5, ei5⟩ := is_v r5
  obtain rfl : w5 = (.int i5) := Option.some.inj ei5
  obtain ⟨n, o, h1, h2, h3, _, L, rfl, ⟨rfl, N⟩, hq⟩ := rm0 l s _ hw tables_1 i0 i1 i2 i3 i4 i5 s.heap s.heap.size (Nat.le_refl _) p e ha hc hk s m _ below hf ((Spec.applies_iff_loose hf).mp happ).1 ⟨rfl, State.Warmed39.refl s, rfl⟩ trivial
  refine ⟨n, _, h1, h2, h3, hpost _ _ _ _ _ _ ⟨Cond.after_iff.mpr rfl, Cond.after_iff.mpr (eq_i res_at (Term.int_eval (1)) rfl), trivial⟩ ⟨hq.1, hq.2.1, (hq.2.2.sift fun y hy => Or.inr (N y hy)).mono (by decide) (by decide)⟩⟩
theorem main_1_1 : Claimed_1_1 := comes_1 fun _ _ _ _ _ _ h hF => ⟨h.1, hF⟩
theorem main_1_2 : Claimed_1_2 := comes_1 fun _ _ _ _ _ _ h hF => ⟨h.2.1, hF⟩
end Jvm.Pilot.@@N@@
namespace Jvm.Pilot.@@N@@
open Jvm Jvm.ClassFile Sem Op Lib Jvm.Free Jvm.Stand Jvm.Pilot.@@N@@.Jvm.D
/-! MADE BY PROGRAM (witnessworld.py) out of the Statement's table words and the real class files: 10 classes; the members and pool entries that the words name. The judged class is class 1, her method 1. -/
namespace start1
open Jvm.ClassFile
def u (s : String) : CpInfo := .utf8 (stringToUtf16 s)
/-- a pool by its gaps: so many unusable entries, then the entry; so many at the end -/
def gap : Nat → List CpInfo → List CpInfo
  | 0, r => r
  | n + 1, r => .unusable :: gap n r
def poolList (es : List (Nat × CpInfo)) (last : Nat) : List CpInfo := es.foldr (fun e r => gap e.1 (e.2 :: r)) (gap last [])
def pool (es : List (Nat × CpInfo)) (last : Nat) : Array CpInfo := ⟨poolList es last⟩
def fileOf (pool : Array CpInfo) (this : Nat) (attrs : Array Attribute := #[]) (ms : Array MethodInfo := #[]) (fl : Nat := 33) (sup : Nat := 0) (ifs : Array Nat := #[]) (fds : Array FieldInfo := #[]) : ClassFile where
  minorVersion := 0
  majorVersion := 65
  constantPool := pool
  accessFlags := fl
  thisClass := this
  superClass := sup
  interfaces := ifs
  fields := fds
  methods := ms
  attributes := attrs
def plain (name : String) (sup : Option ClassId) : Class where
  name := name
  kind := .ordinary
  loader := none
  accessFlags := 33
  super := sup
  interfaces := #[]
  cf := none
  fields := #[]
  methods := #[]
  instanceTypes := #[]
  staticTypes := #[]
  resolved := #[]
  callSites := []
  init := .initialized
  statics := none
  mirror := none

def pool0 : Array CpInfo := pool [(5, u "<init>"), (0, u "()V"), (1, .class_ 10), (1, u "java/lang/Object")] 113

def k0c0 : Code := { maxStack := 0, maxLocals := 1, code := object_method_1_code, exceptionTable := #[], attributes := #[] }
def k0m0 : Method := { name := "<init>", desc := "()V", sig := { parameters := [], returnType := none }, accessFlags := 1, code := some k0c0 }
/-- java/lang/Object -/
def k0 : Class := { plain "java/lang/Object" none with
  accessFlags := 33
  interfaces := #[]
  cf := some (fileOf pool0 8 #[] #[{ accessFlags := 1, nameIndex := 5, descriptorIndex := 6, attributes := #[] }] 33 0 #[] #[])
  fields := #[]
  methods := #[k0m0]
  instanceTypes := #[]
  staticTypes := #[]
  resolved := Array.replicate 124 none
  statics := none }

def pool1 : Array CpInfo := pool [(2, .class_ 4), (1, u "java/lang/Object"), (0, u "<init>"), (0, u "()V"), (0, .methodref 8 9), (0, .class_ 10), (0, .nameAndType 11 12), (0, u "com/example/scripbook/scripbook/file/RecordMarkStandsForPinLaw"), (0, u "pick"), (0, u "(IJJI)J"), (0, .long 18446744073709551615), (1, .class_ 16), (0, u "com/example/scripbook/scripbook/file/RecordMark"), (0, .methodref 15 18), (0, .nameAndType 5 19), (0, u "(JJJJ)V"), (0, .methodref 15 21), (0, .nameAndType 22 23), (0, u "standsFor"), (0, u "(JJ)Z"), (2, u "law"), (0, u "(JJJJJI)Z")] 3

def k1m0 : Method := { name := "<init>", desc := "()V", sig := { parameters := [], returnType := none }, accessFlags := 1, code := none }
def k1c1 : Code := { maxStack := 12, maxLocals := 18, code := code, exceptionTable := #[], attributes := #[] }
def k1m1 : Method := { name := "law", desc := "(JJJJJI)Z", sig := { parameters := [.long, .long, .long, .long, .long, .int], returnType := some .boolean }, accessFlags := 9, code := some k1c1 }
def k1c2 : Code := { maxStack := 5, maxLocals := 6, code := method_3_code, exceptionTable := #[], attributes := #[] }
def k1m2 : Method := { name := "pick", desc := "(IJJI)J", sig := { parameters := [.int, .long, .long, .int], returnType := some .long }, accessFlags := 10, code := some k1c2 }
/-- com/example/scripbook/scripbook/file/RecordMarkStandsForPinLaw -/
def k1 : Class := { plain "com/example/scripbook/scripbook/file/RecordMarkStandsForPinLaw" (some 0) with
  accessFlags := 49
  interfaces := #[]
  cf := some (fileOf pool1 8 #[] #[{ accessFlags := 1, nameIndex := 5, descriptorIndex := 6, attributes := #[] }, { accessFlags := 9, nameIndex := 26, descriptorIndex := 27, attributes := #[] }, { accessFlags := 10, nameIndex := 11, descriptorIndex := 12, attributes := #[] }] 49 2 #[] #[])
  fields := #[]
  methods := #[k1m0, k1m1, k1m2]
  instanceTypes := #[]
  staticTypes := #[]
  resolved := Array.replicate 31 none
  statics := none }

def pool2 : Array CpInfo := pool [(1, .methodref 2 3), (0, .class_ 4), (0, .nameAndType 5 6), (0, u "java/lang/Object"), (0, u "<init>"), (0, u "()V"), (0, .class_ 8), (0, u "java/lang/Record")] 13

def k2c0 : Code := { maxStack := 1, maxLocals := 1, code := jdk_30_method_1_code, exceptionTable := #[], attributes := #[] }
def k2m0 : Method := { name := "<init>", desc := "()V", sig := { parameters := [], returnType := none }, accessFlags := 4, code := some k2c0 }
/-- java/lang/Record -/
def k2 : Class := { plain "java/lang/Record" (some 0) with
  accessFlags := 1057
  interfaces := #[]
  cf := some (fileOf pool2 7 #[] #[{ accessFlags := 4, nameIndex := 5, descriptorIndex := 6, attributes := #[] }] 1057 2 #[] #[])
  fields := #[]
  methods := #[k2m0]
  instanceTypes := #[]
  staticTypes := #[]
  resolved := Array.replicate 22 none
  statics := none }

def pool3 : Array CpInfo := pool [(3, .methodref 4 5), (0, .class_ 6), (0, .nameAndType 7 8), (0, u "java/lang/Record"), (0, u "<init>"), (0, u "()V"), (0, .fieldref 10 11), (0, .class_ 12), (0, .nameAndType 13 14), (0, u "com/example/scripbook/scripbook/file/RecordMark"), (0, u "fromBytes"), (0, u "J"), (0, .fieldref 10 16), (0, .nameAndType 17 14), (0, u "fromHash"), (0, .fieldref 10 19), (0, .nameAndType 20 14), (0, u "bytes"), (0, .fieldref 10 22), (0, .nameAndType 23 14), (0, u "hash"), (2, u "(JJJJ)V"), (8, u "NONE"), (0, u "Lcom/example/scripbook/scripbook/file/RecordMark;"), (28, u "BYTES"), (0, u "I"), (12, u "standsFor"), (0, u "(JJ)Z")] 37

def k3c0 : Code := { maxStack := 3, maxLocals := 9, code := prog_29_method_1_code, exceptionTable := #[], attributes := #[] }
def k3m0 : Method := { name := "<init>", desc := "(JJJJ)V", sig := { parameters := [.long, .long, .long, .long], returnType := none }, accessFlags := 0, code := some k3c0 }
def k3c1 : Code := { maxStack := 4, maxLocals := 5, code := prog_29_method_5_code, exceptionTable := #[], attributes := #[] }
def k3m1 : Method := { name := "standsFor", desc := "(JJ)Z", sig := { parameters := [.long, .long], returnType := some .boolean }, accessFlags := 0, code := some k3c1 }
/-- com/example/scripbook/scripbook/file/RecordMark -/
def k3 : Class := { plain "com/example/scripbook/scripbook/file/RecordMark" (some 2) with
  accessFlags := 48
  interfaces := #[]
  cf := some (fileOf pool3 10 #[] #[{ accessFlags := 0, nameIndex := 7, descriptorIndex := 26, attributes := #[] }, { accessFlags := 0, nameIndex := 79, descriptorIndex := 80, attributes := #[] }] 48 4 #[] #[{ accessFlags := 18, nameIndex := 13, descriptorIndex := 14, attributes := #[] }, { accessFlags := 18, nameIndex := 17, descriptorIndex := 14, attributes := #[] }, { accessFlags := 18, nameIndex := 20, descriptorIndex := 14, attributes := #[] }, { accessFlags := 18, nameIndex := 23, descriptorIndex := 14, attributes := #[] }, { accessFlags := 24, nameIndex := 65, descriptorIndex := 66, attributes := #[] }, { accessFlags := 24, nameIndex := 35, descriptorIndex := 36, attributes := #[] }])
  fields := #[{ name := "fromBytes", type := .long, accessFlags := 18, slot := 0, constantValue := 0 }, { name := "fromHash", type := .long, accessFlags := 18, slot := 1, constantValue := 0 }, { name := "bytes", type := .long, accessFlags := 18, slot := 2, constantValue := 0 }, { name := "hash", type := .long, accessFlags := 18, slot := 3, constantValue := 0 }, { name := "BYTES", type := .int, accessFlags := 24, slot := 0, constantValue := 0 }, { name := "NONE", type := (.object "com/example/scripbook/scripbook/file/RecordMark"), accessFlags := 24, slot := 1, constantValue := 0 }]
  methods := #[k3m0, k3m1]
  instanceTypes := #[.long, .long, .long, .long]
  staticTypes := #[.int, (.object "com/example/scripbook/scripbook/file/RecordMark")]
  resolved := Array.replicate 118 none
  statics := none }

def pool4 : Array CpInfo := pool [(1, u "java/lang/Cloneable"), (0, .class_ 1), (0, u "java/lang/Object"), (0, .class_ 3)] 3

/-- java/lang/Cloneable -/
def k4 : Class := { plain "java/lang/Cloneable" (some 0) with
  accessFlags := 1537
  interfaces := #[]
  cf := some (fileOf pool4 2 #[] #[] 1537 4 #[] #[])
  fields := #[]
  methods := #[]
  instanceTypes := #[]
  staticTypes := #[]
  resolved := Array.replicate 8 none
  statics := none }

def pool5 : Array CpInfo := pool [(1, u "java/io/Serializable"), (0, .class_ 1), (0, u "java/lang/Object"), (0, .class_ 3)] 3

/-- java/io/Serializable -/
def k5 : Class := { plain "java/io/Serializable" (some 0) with
  accessFlags := 1537
  interfaces := #[]
  cf := some (fileOf pool5 2 #[] #[] 1537 4 #[] #[])
  fields := #[]
  methods := #[]
  instanceTypes := #[]
  staticTypes := #[]
  resolved := Array.replicate 8 none
  statics := none }

/-- the primitive byte -/
def k6 : Class := { plain "byte" none with kind := .primitive 'B', accessFlags := 0x411 }
/-- [B -/
def k7 : Class := { plain "[B" (some 0) with kind := .array 6 .byte, interfaces := #[4, 5], accessFlags := 1041 }

/-- the primitive int -/
def k8 : Class := { plain "int" none with kind := .primitive 'I', accessFlags := 0x411 }
/-- [I -/
def k9 : Class := { plain "[I" (some 0) with kind := .array 8 .int, interfaces := #[4, 5], accessFlags := 1041 }

def heap : Heap := #[]
def classes : Array Class := #[k0, k1, k2, k3, k4, k5, k6, k7, k8, k9]
def interned : List (Array UInt16 × Addr) := []
def slotsUsed : Nat := 0
def theMethod : MethodId := ⟨1, 1⟩
def args0 : Array Value := #[.long 5, .long 6, .long 7, .long 8, .long 9, .int 10]
def aboutOver (below : List Frame) : State where
  vm := { classes := classes, interned := interned.toArray }
  heap := heap
  slotsUsed := slotsUsed
  threads := #[{ frames := .invoking theMethod args0 :: below }]
def below0 : List Frame := [.native { method := ⟨0, 0⟩, args := #[] }]
def about1 : State := aboutOver below0
def p0 : Program := .bare "" "" ""
def e0 : Env := launch0.env 0 0 0
theorem w_frames : about1.frames = Frame.invoking theMethod args0 :: below0 := rfl
set_option maxRecDepth 65536 in
theorem w_args : argsFit about1.vm theMethod args0 = true := by decide +kernel
set_option maxRecDepth 65536 in
theorem w_heap : heapFits about1 = true := by decide +kernel
set_option maxRecDepth 65536 in
theorem w_runnable : about1.curStatus? = some .runnable := by decide +kernel
set_option maxRecDepth 65536 in
theorem w_alone : about1.alone = true := by decide +kernel
set_option maxRecDepth 65536 in
theorem w_named : about1.methodNamed? x = some theMethod := by decide +kernel
set_option maxRecDepth 65536 in
theorem w_hears : about1.hears theMethod below0 = true := by decide +kernel
set_option maxRecDepth 65536 in
theorem w_ripe : about1.ripe theMethod args0 below0 = true := by decide +kernel
theorem w_running : about1.status = .running := rfl
set_option maxRecDepth 65536 in
theorem w_room : about1.hasRoom e0.platform room_1 = true :=
  launch0.hasRoom_least _ room_1 (by decide +kernel) (by decide +kernel) (by decide +kernel) (by decide +kernel) (by decide +kernel) (by decide +kernel)
theorem allAtoms_all (ts : List Jvm.Cond) (a : Array Jvm.Value) (st : Jvm.State) : (allAtoms ts).before a st = ts.all (fun c => c.before a st) := by
  induction ts with
  | nil => rfl
  | cons c t ih =>
    show (Jvm.Cond.and c (allAtoms t)).before a st = _
    rw [Jvm.Cond.before_and, ih, List.all_cons]
def words1 : List Jvm.Cond := Jvm.Cond.code x code maxLocals ret :: tables_1
/-- a 'code' word, met by the world's own term for the bytes: nothing is compared byte by byte -/
theorem code_word {y : MethodName} {bytes : ByteArray} {mx : Nat} {rt : Option FieldType} {a : Array Value} {s : State} {m : MethodId} {meth : Method} {c : Code} (h1 : s.methodNamed? y = some m) (h2 : s.vm.method? m = some meth) (h3 : meth.code = some c) (h4 : c.code = bytes)
    (h5 : (c.maxLocals == mx && c.exceptionTable.isEmpty && decide (c.maxStack ≤ mostOperands) && decide (meth.sig.returnType = rt) && !meth.locks && decide (parseMethodDescriptor y.desc = some meth.sig)) = true) : (Jvm.Cond.code y bytes mx rt).before a s = true := by
  simp only [Bool.and_eq_true, beq_iff_eq, Bool.not_eq_true', decide_eq_true_eq] at h5
  obtain ⟨⟨⟨⟨⟨g1, g2⟩, g3⟩, g4⟩, g5⟩, g6⟩ := h5
  simp [Cond.before, Cond.holds, Cond.value, h1, h2, h3, h4, g1, g2, g3, g4, g5, g6]
def isCode : Jvm.Cond → Bool
  | .code _ _ _ _ => true
  | _ => false
theorem all_split {L : List Jvm.Cond} {P : Jvm.Cond → Bool} (h1 : L.all (fun c => isCode c || P c) = true) (h2 : ∀ c ∈ L.filter isCode, P c = true) : L.all P = true := by
  refine List.all_eq_true.mpr fun c hc => ?_
  have h := List.all_eq_true.mp h1 c hc
  rcases Bool.eq_false_or_eq_true (isCode c) with hi | hi
  · exact h2 c (List.mem_filter.mpr ⟨hc, hi⟩)
  · simpa [hi] using h
set_option maxRecDepth 65536 in
theorem w_c0 : (Jvm.Cond.code x code maxLocals ret).before args0 about1 = true := code_word (m := ⟨1, 1⟩) (meth := k1m1) (c := k1c1) (by decide +kernel) rfl rfl rfl (by decide +kernel)
set_option maxRecDepth 65536 in
theorem w_c1 : (Jvm.Cond.code ({ cls := "com/example/scripbook/scripbook/file/RecordMarkStandsForPinLaw", name := "pick", desc := "(IJJI)J" } : Jvm.MethodName) method_3_code (6 : Nat) (Option.some Jvm.ClassFile.FieldType.long)).before args0 about1 = true := code_word (m := ⟨1, 2⟩) (meth := k1m2) (c := k1c2) (by decide +kernel) rfl rfl rfl (by decide +kernel)
set_option maxRecDepth 65536 in
theorem w_c2 : (Jvm.Cond.code ({ cls := "com/example/scripbook/scripbook/file/RecordMark", name := "<init>", desc := "(JJJJ)V" } : Jvm.MethodName) prog_29_method_1_code (9 : Nat) (Option.none : Option Jvm.ClassFile.FieldType)).before args0 about1 = true := code_word (m := ⟨3, 0⟩) (meth := k3m0) (c := k3c0) (by decide +kernel) rfl rfl rfl (by decide +kernel)
set_option maxRecDepth 65536 in
theorem w_c3 : (Jvm.Cond.code ({ cls := "java/lang/Record", name := "<init>", desc := "()V" } : Jvm.MethodName) jdk_30_method_1_code (1 : Nat) (Option.none : Option Jvm.ClassFile.FieldType)).before args0 about1 = true := code_word (m := ⟨2, 0⟩) (meth := k2m0) (c := k2c0) (by decide +kernel) rfl rfl rfl (by decide +kernel)
set_option maxRecDepth 65536 in
theorem w_c4 : (Jvm.Cond.code ({ cls := "java/lang/Object", name := "<init>", desc := "()V" } : Jvm.MethodName) object_method_1_code (1 : Nat) (Option.none : Option Jvm.ClassFile.FieldType)).before args0 about1 = true := code_word (m := ⟨0, 0⟩) (meth := k0m0) (c := k0c0) (by decide +kernel) rfl rfl rfl (by decide +kernel)
set_option maxRecDepth 65536 in
theorem w_c5 : (Jvm.Cond.code ({ cls := "com/example/scripbook/scripbook/file/RecordMark", name := "standsFor", desc := "(JJ)Z" } : Jvm.MethodName) prog_29_method_5_code (5 : Nat) (Option.some Jvm.ClassFile.FieldType.boolean)).before args0 about1 = true := code_word (m := ⟨3, 1⟩) (meth := k3m1) (c := k3c1) (by decide +kernel) rfl rfl rfl (by decide +kernel)
def codes1 : List Jvm.Cond := [Jvm.Cond.code x code maxLocals ret, Jvm.Cond.code ({ cls := "com/example/scripbook/scripbook/file/RecordMarkStandsForPinLaw", name := "pick", desc := "(IJJI)J" } : Jvm.MethodName) method_3_code (6 : Nat) (Option.some Jvm.ClassFile.FieldType.long), Jvm.Cond.code ({ cls := "com/example/scripbook/scripbook/file/RecordMark", name := "<init>", desc := "(JJJJ)V" } : Jvm.MethodName) prog_29_method_1_code (9 : Nat) (Option.none : Option Jvm.ClassFile.FieldType), Jvm.Cond.code ({ cls := "java/lang/Record", name := "<init>", desc := "()V" } : Jvm.MethodName) jdk_30_method_1_code (1 : Nat) (Option.none : Option Jvm.ClassFile.FieldType), Jvm.Cond.code ({ cls := "java/lang/Object", name := "<init>", desc := "()V" } : Jvm.MethodName) object_method_1_code (1 : Nat) (Option.none : Option Jvm.ClassFile.FieldType), Jvm.Cond.code ({ cls := "com/example/scripbook/scripbook/file/RecordMark", name := "standsFor", desc := "(JJ)Z" } : Jvm.MethodName) prog_29_method_5_code (5 : Nat) (Option.some Jvm.ClassFile.FieldType.boolean)]
set_option maxRecDepth 65536 in
theorem codes_eq : words1.filter isCode = codes1 := rfl
theorem w_codes : ∀ c ∈ words1.filter isCode, c.before args0 about1 = true := by
  rw [codes_eq]
  intro c hc
  simp only [codes1, List.mem_cons, List.not_mem_nil, or_false] at hc
  rcases hc with rfl | rfl | rfl | rfl | rfl | rfl
  · exact w_c0
  · exact w_c1
  · exact w_c2
  · exact w_c3
  · exact w_c4
  · exact w_c5
set_option maxRecDepth 65536 in
theorem w_t1 : (words1.take 24).all (fun c => isCode c || c.before args0 about1) = true := by decide +kernel
set_option maxRecDepth 65536 in
theorem w_t2 : (words1.drop 24).all (fun c => isCode c || c.before args0 about1) = true := by decide +kernel
theorem w_tables : (allAtoms (Jvm.Cond.code x code maxLocals ret :: tables_1)).before args0 about1 = true := by
  rw [allAtoms_all]
  show words1.all (fun c => c.before args0 about1) = true
  refine all_split ?_ w_codes
  rw [← List.take_append_drop 24 words1, List.all_append, w_t1, w_t2]
  rfl
set_option maxRecDepth 65536 in
theorem w_case : (Jvm.Cond.and given_1 narrow_1).before args0 about1 = true := by decide +kernel
theorem w_applies : (headSpec (Jvm.Cond.code x code maxLocals ret :: tables_1) room_1).applies x e0.platform about1 = true :=
  (Spec.applies_iff w_frames).mpr ⟨w_running, w_runnable, w_alone, w_named, w_hears, w_ripe, w_room, w_tables⟩
theorem atStart : AtStart classFile x code maxLocals ret World_1 tables_1 room_1 Calls_1 rest_1 Pre_1 launch0 p0 e0 about1 theMethod args0 below0 :=
  ⟨lists_1, trivial, launch0.admits_env _ _ _, launch0.least_env, fairChoices_fair.cas, fairChoices_fair.clock, w_frames, w_args, w_heap, w_applies, trivial, trivial, w_case⟩
end start1
theorem witness_1 : WitnessClaimed_1 := ⟨start1.p0, start1.e0, start1.about1, start1.theMethod, start1.args0, start1.below0, start1.atStart⟩
end Jvm.Pilot.@@N@@
