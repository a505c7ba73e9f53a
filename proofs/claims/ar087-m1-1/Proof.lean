import JvmDerived
import JvmDerived.Pilot.@@N@@Statement
import JvmDerived.Pilot.@@N@@Code
set_option linter.unusedVariables false
set_option linter.unusedSimpArgs false
@@BLOCK:NumsL.lean.txt@@
namespace Jvm.RoadKit
open Sem ClassFile Op Lib Jvm.Stand Jvm.Free Jvm.LawKit
section New
variable {p : Program} {l : Launch} {e : Env} {R : Room} {s : State} {m : MethodId} {args : Array Value} {below : List Frame} {meth : Method} {c : Code} {T : State} {locs : List Loc} {cells slots : Nat}
theorem retI (X : Stand p l e R s m args below meth c T locs cells slots) (hx : p.tables.exec = Jvm.exec) {pc : Nat} {Ls : Array Slot} {z : Int32} {rest : List Value} (hret : meth.sig.returnType = some .int) (hd : decode c.code pc = .ok (.ireturn, 1)) {fs : List Frame}
    (hl : ∀ (f : JFrame) (acts : List Action), f.method = m → f.locked = none → f.entered = [] → (doReturn e (T.setTop f) acts (some (.int z))).1 = T.setFrames fs) : Steps p.tables e below (T.setTop (mkF m pc Ls (.int z :: rest))) (T.setFrames fs) := by
  have hm' : T.vm.method? m = some meth := X.method'
  have hn : narrow .int (.int z) = .int z := rfl
  show Steps p.tables e below (T.setTop { method := m, pc := pc, locals := Ls, stack := _ :: rest, locked := none }) _
  jvm_step X.here [X.here.top, hx, hd, hm', hret, hn]
  first | (intro acts; rw [hl _ acts rfl rfl rfl]) | rw [hl _ _ rfl rfl rfl]
  exact Steps.refl _
end New
end Jvm.RoadKit
namespace Jvm.Pilot.@@N@@
open Jvm Jvm.ClassFile Sem Op Lib Jvm.Free Jvm.Stand Jvm.LawKit Jvm.RoadKit Bundle Jvm.Pilot.@@N@@.Jvm.D


/-! what a callee that writes nothing leaves, and its contract -/
def OQ (r : Value) (h0 : Heap) (n0 : Nat) (v : Option Value) (h : Heap) (L : List Loc) : Prop := v = some r ∧ Fr n0 L ∧ h = h0
abbrev OM (l : Launch) (y : MethodName) (bytes : ByteArray) (maxL : Nat) (ret : Option FieldType) (ws : List Jvm.Cond) (rm : Room) (Z : State) (as' : Array Value) (h0 : Heap) (n0 : Nat) (r : Value) : Prop :=
  MetFree l y (head1 (Jvm.Cond.code y bytes maxL ret :: ws) rm) (fun a U => a = as' ∧ Z.Warmed39 U.vm ∧ U.heap = h0) (fun _ _ _ _ _ => True) (fun _ U o U' => ∃ v L, o = .returned v ∧ OQ r h0 n0 v U'.heap L ∧ FrameEnd U o U' L rm.cells rm.slots)
/-- an enum constant: what the words 'exactly', 'initialized', 'laysStatic' give -/
theorem own_sta {Z : State} {args : Array Value} {C n d K : String} (hx : (Jvm.Cond.exactly (Term.static C n d) K).value args Z none Z [] = some true) (w1 : (Jvm.Cond.initialized C).before args Z = true) (w2 : (Jvm.Cond.laysStatic C n d).before args Z = true) :
    ∃ a, (Term.static C n d).eval args Z none [] Z = some (.ref a) ∧ Sta Z Z.heap C n d (.ref a) ∧ Exa Z Z.heap a K := by
  obtain ⟨a, ea⟩ := exa_v hx
  exact ⟨a, ea, Sta.start ea (Or.inr ⟨w1, w2⟩), Exa.start ea hx⟩
theorem own_int {Z : State} {args : Array Value} {t : Term} {a : Addr} {C n d : String} {k : Int32} (ea : t.eval args Z none [] Z = some (.ref a)) (h : (Jvm.Cond.eq (Term.field t C n d) (Term.int k)).value args Z none Z [] = some true) : Z.fieldOf? a C n d = some (.int k) := by
  rw [← fld_at (args := args) (first := Z) (o := none) (idx := []) ea]
  cases hv : (Term.field t C n d).eval args Z none [] Z with
  | none => simp [Jvm.Cond.value, hv] at h
  | some x => cases x <;> simp [Jvm.Cond.value, hv, Term.int_eval] at h ⊢; exact h
theorem own_ne {Z : State} {a b : Addr} {C n d : String} {j k : Int32} (h1 : Z.fieldOf? a C n d = some (.int j)) (h2 : Z.fieldOf? b C n d = some (.int k)) (h : j ≠ k) : a ≠ b := fun e => by
  subst e
  rw [h1] at h2
  exact h (Value.int.inj (Option.some.inj h2))
theorem own_keep {h h' : Heap} (e : h' = h) : Keep h h' [] := e ▸ Keep.refl _ _
theorem own_staE {Z : State} {h h' : Heap} {C n d : String} {v : Value} (F : Sta Z h C n d v) (e : h' = h) : Sta Z h' C n d v := e ▸ F


def LQ (n0 : Nat) (v : Option Value) (h : Heap) (L : List Loc) : Prop := v = some (.int (1 : Int32)) ∧ Fr n0 L
abbrev OL (l : Launch) (ws : List Jvm.Cond) (as' : Array Value) (Z : State) (h0 : Heap) (n0 : Nat) : Prop :=
  MetFree l x (head1 (Jvm.Cond.code x code maxLocals ret :: ws) room_1) (fun a U => a = as' ∧ Z.Warmed39 U.vm ∧ U.heap = h0) (fun _ _ _ _ _ => True) (fun _ U o U' => ∃ v L, o = .returned v ∧ LQ n0 v U'.heap L ∧ FrameEnd U o U' L room_1.cells room_1.slots)


theorem own_mod (x n : Int32) (hn : 0 < n.toInt) : 0 ≤ ((x &&& (2147483647 : Int32)) % n).toInt ∧ ((x &&& (2147483647 : Int32)) % n).toInt < n.toInt := by
  have e : (x &&& (2147483647 : Int32)).toInt = x.toInt % 2 ^ 31 := Jvm.Kit.i32_mask x 2147483647 (k := 31) (by decide) (by decide)
  have h0 : 0 ≤ (x &&& (2147483647 : Int32)).toInt := by rw [e]; exact Int.emod_nonneg _ (by decide)
  rw [Jvm.Kit.i32_rem_nonneg h0]
  exact ⟨Int.emod_nonneg _ (by omega), Int.emod_lt_of_pos _ hn⟩

theorem own_i7 (x : Int32) : ((x &&& (2147483647 : Int32)) % (7 : Int32)) = (0 : Int32) ∨ ((x &&& (2147483647 : Int32)) % (7 : Int32)) = (1 : Int32) ∨ ((x &&& (2147483647 : Int32)) % (7 : Int32)) = (2 : Int32) ∨ ((x &&& (2147483647 : Int32)) % (7 : Int32)) = (3 : Int32) ∨ ((x &&& (2147483647 : Int32)) % (7 : Int32)) = (4 : Int32) ∨ ((x &&& (2147483647 : Int32)) % (7 : Int32)) = (5 : Int32) ∨ ((x &&& (2147483647 : Int32)) % (7 : Int32)) = (6 : Int32) := by
  have h := own_mod x 7 (by decide)
  have e : ((7 : Int32)).toInt = 7 := by decide
  rw [e] at h
  generalize ((x &&& (2147483647 : Int32)) % (7 : Int32)) = i at h ⊢
  have q : i.toInt = 0 ∨ i.toInt = 1 ∨ i.toInt = 2 ∨ i.toInt = 3 ∨ i.toInt = 4 ∨ i.toInt = 5 ∨ i.toInt = 6 := by omega
  rcases q with q | q | q | q | q | q | q
  · exact Or.inl (Int32.toInt_inj.mp (q.trans (by decide : (0 : Int) = ((0 : Int32)).toInt)))
  · exact Or.inr (Or.inl (Int32.toInt_inj.mp (q.trans (by decide : (1 : Int) = ((1 : Int32)).toInt))))
  · exact Or.inr (Or.inr (Or.inl (Int32.toInt_inj.mp (q.trans (by decide : (2 : Int) = ((2 : Int32)).toInt)))))
  · exact Or.inr (Or.inr (Or.inr (Or.inl (Int32.toInt_inj.mp (q.trans (by decide : (3 : Int) = ((3 : Int32)).toInt))))))
  · exact Or.inr (Or.inr (Or.inr (Or.inr (Or.inl (Int32.toInt_inj.mp (q.trans (by decide : (4 : Int) = ((4 : Int32)).toInt)))))))
  · exact Or.inr (Or.inr (Or.inr (Or.inr (Or.inr (Or.inl (Int32.toInt_inj.mp (q.trans (by decide : (5 : Int) = ((5 : Int32)).toInt))))))))
  · exact Or.inr (Or.inr (Or.inr (Or.inr (Or.inr (Or.inr ((Int32.toInt_inj.mp (q.trans (by decide : (6 : Int) = ((6 : Int32)).toInt)))))))))

theorem own_staK {Z : State} {h h' : Heap} {C n d : String} {v : Value} (F : Sta Z h C n d v) (K : Keep h h' []) : Sta Z h' C n d v := by
  obtain ⟨cf, i, k, f, st, cell, h1, h2, h3, h4, h5, r⟩ := F
  exact ⟨cf, i, k, f, st, cell, h1, h2, h3, h4, K.2.1 _ _ h5 List.not_mem_nil, r⟩

theorem d1_0 : decode prog_10_method_7_code 0 = .ok (.aload_n 0, 1) := by decide +kernel
theorem d1_1 : decode prog_10_method_7_code 1 = .ok (.getstatic 3, 3) := by decide +kernel
theorem d1_4 : decode prog_10_method_7_code 4 = .ok (.if_acmp .eq 14, 3) := by decide +kernel
theorem d1_18 : decode prog_10_method_7_code 18 = .ok (.iconst 0, 1) := by decide +kernel
theorem d1_19 : decode prog_10_method_7_code 19 = .ok (.ireturn, 1) := by decide +kernel
theorem pn_1 : plainName "com/example/lambdash/lambdash/engine/ActionPreference" = true := by first | (simp [plainName, overriddenIn]; done) | decide +kernel
theorem ef_1 (m : MethodId) (x0 : Addr) : entryFrame m #[(.ref x0)] 1 = mkF m 0 #[.val (.ref x0)] [] := by first | (simp [entryFrame, mkF, argsToLocals, Value.category]; done) | rfl
set_option maxRecDepth 65536 in
set_option maxHeartbeats 40000000 in
theorem rm1_t (l : Launch) (Z : State) (a0 : Array Value) (hw : ∀ d ∈ tables_1, d.before a0 Z = true) (ws : List Jvm.Cond) (a1 : Addr) (w2 : Addr) (h0 : Heap) (n0 : Nat) (Z0 : n0 ≤ h0.size) (S_SILENTLY_CONTINUE : Sta Z h0 "com/example/lambdash/lambdash/engine/ActionPreference" "SILENTLY_CONTINUE" "Lcom/example/lambdash/lambdash/engine/ActionPreference;" (.ref w2)) (ha4 : a1 = w2) :
    MetFree l (⟨"com/example/lambdash/lambdash/engine/ActionPreference", "shows", "()Z"⟩ : MethodName) (head1 (Jvm.Cond.code (⟨"com/example/lambdash/lambdash/engine/ActionPreference", "shows", "()Z"⟩ : MethodName) prog_10_method_7_code 1 (some .boolean) :: ws) ({ frames := 0, cells := 0, slots := 0, locals := 0 } : Room)) (fun a U => a = #[(.ref a1)] ∧ Z.Warmed39 U.vm ∧ U.heap = h0) (fun _ _ _ _ _ => True) (fun _ U o U' => ∃ v L, o = .returned v ∧ OQ (.int (0 : Int32)) h0 n0 v U'.heap L ∧ FrameEnd U o U' L ({ frames := 0, cells := 0, slots := 0, locals := 0 } : Room).cells ({ frames := 0, cells := 0, slots := 0, locals := 0 } : Room).slots) := by
  refine MetFree.of_bodySF (plainFor_of_name pn_1) hisR ?_
  intro p e s m args below meth c s₁ Bd hml0 hP hK
  obtain ⟨rfl, hZ, hh⟩ := hP
  have hx := Bd.exec
  have hby := Bd.bytes
  have hml : c.maxLocals = 1 := hml0
  have hown : s.vm.findClass "com/example/lambdash/lambdash/engine/ActionPreference" = some m.cls := findClass_of_methodNamed Bd.named
  have hnm := (name_of_methodNamed Bd.named Bd.method).1
  have X0 : Stand p l e ({ frames := 0, cells := 0, slots := 0, locals := 0 } : Room) s m #[(.ref a1)] below meth c s₁ [] 0 0 := Stand.of_body Bd
  have e0 : s₁.heap = h0 := by rw [← hh, Bd.state]; rfl
  have N0 := Fr.nil n0
  have pre0 : ∀ t, Steps p.tables e below (s₁.setTop (mkF m 0 #[.val (.ref a1)] [])) t → Steps p.tables e below (s₁.setTop (entryFrame m #[(.ref a1)] 1)) t := fun t k => castTop (ef_1 m a1) k
  -- 3. LAWS
  obtain ⟨T3, X3, e3, st3⟩ := getS2 X0 hx hZ hown (host := "") (Or.inl (hw _ (List.mem_of_getElem? (i := 25) rfl))) Via.refl e0 S_SILENTLY_CONTINUE (g := (mkF m 1 #[.val (.ref a1)] [(.ref a1)])) rfl (hb hby d1_1)
  obtain ⟨fs, hr, hrun, hended, hW, hsame⟩ := X3.leave (v := some (.int (0 : Int32))) (fun h => by rw [Bd.returns] at h; cases h)
  refine ⟨_, _, pre0 _ ?_, hrun, hended, _, _, rfl, ?_, ⟨_, rfl⟩, hW, hsame.mono (by decide) (by decide)⟩
  -- 4. STEPS
  · show Steps p.tables e below (s₁.setTop (mkF m 0 #[.val (.ref a1)] [])) _
    refine XS.aloadN X0.here hx rfl (hb hby d1_0) rfl rfl ?_
    show Steps p.tables e below (s₁.setTop (mkF m 1 #[.val (.ref a1)] [(.ref a1)])) _
    refine st3 _ ?_
    show Steps p.tables e below (T3.setTop (mkF m 4 #[.val (.ref a1)] [(.ref w2), (.ref a1)])) _
    refine Jvm.RoadKit.acmp (g := (mkF m 4 #[.val (.ref a1)] [(.ref w2), (.ref a1)])) X3 hx rfl rfl rfl (pc0 := 4) (pc' := 18) (same := true) rfl (hb hby d1_4) rfl (decide_eq_true (congrArg Value.ref ha4)) (by decide) (by decide) ?_
    show Steps p.tables e below (T3.setTop (mkF m 18 #[.val (.ref a1)] [])) _
    refine XS.iconst X3.here hx rfl (hb hby d1_18) ?_
    show Steps p.tables e below (T3.setTop (mkF m 19 #[.val (.ref a1)] [(.int (0 : Int32))])) _
    exact retN X3 hx (t := .boolean) Bd.returns (by simp) (hb hby d1_19) hr
  · show OQ (.int (0 : Int32)) h0 n0 _ T3.heap _
    rw [e3]
    exact ⟨rfl, N0, rfl⟩
theorem d1_7 : decode prog_10_method_7_code 7 = .ok (.aload_n 0, 1) := by decide +kernel
theorem d1_8 : decode prog_10_method_7_code 8 = .ok (.getstatic 16, 3) := by decide +kernel
theorem d1_11 : decode prog_10_method_7_code 11 = .ok (.if_acmp .eq 7, 3) := by decide +kernel
set_option maxRecDepth 65536 in
set_option maxHeartbeats 40000000 in
theorem rm1_ft (l : Launch) (Z : State) (a0 : Array Value) (hw : ∀ d ∈ tables_1, d.before a0 Z = true) (ws : List Jvm.Cond) (a1 : Addr) (w2 : Addr) (w4 : Addr) (h0 : Heap) (n0 : Nat) (Z0 : n0 ≤ h0.size) (S_SILENTLY_CONTINUE : Sta Z h0 "com/example/lambdash/lambdash/engine/ActionPreference" "SILENTLY_CONTINUE" "Lcom/example/lambdash/lambdash/engine/ActionPreference;" (.ref w2)) (S_IGNORE : Sta Z h0 "com/example/lambdash/lambdash/engine/ActionPreference" "IGNORE" "Lcom/example/lambdash/lambdash/engine/ActionPreference;" (.ref w4)) (ha4 : ¬ (a1 = w2)) (ha11 : a1 = w4) :
    MetFree l (⟨"com/example/lambdash/lambdash/engine/ActionPreference", "shows", "()Z"⟩ : MethodName) (head1 (Jvm.Cond.code (⟨"com/example/lambdash/lambdash/engine/ActionPreference", "shows", "()Z"⟩ : MethodName) prog_10_method_7_code 1 (some .boolean) :: ws) ({ frames := 0, cells := 0, slots := 0, locals := 0 } : Room)) (fun a U => a = #[(.ref a1)] ∧ Z.Warmed39 U.vm ∧ U.heap = h0) (fun _ _ _ _ _ => True) (fun _ U o U' => ∃ v L, o = .returned v ∧ OQ (.int (0 : Int32)) h0 n0 v U'.heap L ∧ FrameEnd U o U' L ({ frames := 0, cells := 0, slots := 0, locals := 0 } : Room).cells ({ frames := 0, cells := 0, slots := 0, locals := 0 } : Room).slots) := by
  refine MetFree.of_bodySF (plainFor_of_name pn_1) hisR ?_
  intro p e s m args below meth c s₁ Bd hml0 hP hK
  obtain ⟨rfl, hZ, hh⟩ := hP
  have hx := Bd.exec
  have hby := Bd.bytes
  have hml : c.maxLocals = 1 := hml0
  have hown : s.vm.findClass "com/example/lambdash/lambdash/engine/ActionPreference" = some m.cls := findClass_of_methodNamed Bd.named
  have hnm := (name_of_methodNamed Bd.named Bd.method).1
  have X0 : Stand p l e ({ frames := 0, cells := 0, slots := 0, locals := 0 } : Room) s m #[(.ref a1)] below meth c s₁ [] 0 0 := Stand.of_body Bd
  have e0 : s₁.heap = h0 := by rw [← hh, Bd.state]; rfl
  have N0 := Fr.nil n0
  have pre0 : ∀ t, Steps p.tables e below (s₁.setTop (mkF m 0 #[.val (.ref a1)] [])) t → Steps p.tables e below (s₁.setTop (entryFrame m #[(.ref a1)] 1)) t := fun t k => castTop (ef_1 m a1) k
  -- 3. LAWS
  obtain ⟨T3, X3, e3, st3⟩ := getS2 X0 hx hZ hown (host := "") (Or.inl (hw _ (List.mem_of_getElem? (i := 25) rfl))) Via.refl e0 S_SILENTLY_CONTINUE (g := (mkF m 1 #[.val (.ref a1)] [(.ref a1)])) rfl (hb hby d1_1)
  obtain ⟨T5, X5, e5, st5⟩ := getS2 X3 hx hZ hown (host := "") (Or.inl (hw _ (List.mem_of_getElem? (i := 26) rfl))) Via.refl e3 S_IGNORE (g := (mkF m 8 #[.val (.ref a1)] [(.ref a1)])) rfl (hb hby d1_8)
  obtain ⟨fs, hr, hrun, hended, hW, hsame⟩ := X5.leave (v := some (.int (0 : Int32))) (fun h => by rw [Bd.returns] at h; cases h)
  refine ⟨_, _, pre0 _ ?_, hrun, hended, _, _, rfl, ?_, ⟨_, rfl⟩, hW, hsame.mono (by decide) (by decide)⟩
  -- 4. STEPS
  · show Steps p.tables e below (s₁.setTop (mkF m 0 #[.val (.ref a1)] [])) _
    refine XS.aloadN X0.here hx rfl (hb hby d1_0) rfl rfl ?_
    show Steps p.tables e below (s₁.setTop (mkF m 1 #[.val (.ref a1)] [(.ref a1)])) _
    refine st3 _ ?_
    show Steps p.tables e below (T3.setTop (mkF m 4 #[.val (.ref a1)] [(.ref w2), (.ref a1)])) _
    refine Jvm.RoadKit.acmp (g := (mkF m 4 #[.val (.ref a1)] [(.ref w2), (.ref a1)])) X3 hx rfl rfl rfl (pc0 := 4) (pc' := 7) (same := false) rfl (hb hby d1_4) rfl (decide_eq_false fun q => ha4 (Value.ref.inj q)) (by decide) (by decide) ?_
    show Steps p.tables e below (T3.setTop (mkF m 7 #[.val (.ref a1)] [])) _
    refine XS.aloadN X3.here hx rfl (hb hby d1_7) rfl rfl ?_
    show Steps p.tables e below (T3.setTop (mkF m 8 #[.val (.ref a1)] [(.ref a1)])) _
    refine st5 _ ?_
    show Steps p.tables e below (T5.setTop (mkF m 11 #[.val (.ref a1)] [(.ref w4), (.ref a1)])) _
    refine Jvm.RoadKit.acmp (g := (mkF m 11 #[.val (.ref a1)] [(.ref w4), (.ref a1)])) X5 hx rfl rfl rfl (pc0 := 11) (pc' := 18) (same := true) rfl (hb hby d1_11) rfl (decide_eq_true (congrArg Value.ref ha11)) (by decide) (by decide) ?_
    show Steps p.tables e below (T5.setTop (mkF m 18 #[.val (.ref a1)] [])) _
    refine XS.iconst X5.here hx rfl (hb hby d1_18) ?_
    show Steps p.tables e below (T5.setTop (mkF m 19 #[.val (.ref a1)] [(.int (0 : Int32))])) _
    exact retN X5 hx (t := .boolean) Bd.returns (by simp) (hb hby d1_19) hr
  · show OQ (.int (0 : Int32)) h0 n0 _ T5.heap _
    rw [e5]
    exact ⟨rfl, N0, rfl⟩
theorem d1_14 : decode prog_10_method_7_code 14 = .ok (.iconst 1, 1) := by decide +kernel
theorem d1_15 : decode prog_10_method_7_code 15 = .ok (.goto 4, 3) := by decide +kernel
set_option maxRecDepth 65536 in
set_option maxHeartbeats 40000000 in
theorem rm1_ff (l : Launch) (Z : State) (a0 : Array Value) (hw : ∀ d ∈ tables_1, d.before a0 Z = true) (ws : List Jvm.Cond) (a1 : Addr) (w2 : Addr) (w4 : Addr) (h0 : Heap) (n0 : Nat) (Z0 : n0 ≤ h0.size) (S_SILENTLY_CONTINUE : Sta Z h0 "com/example/lambdash/lambdash/engine/ActionPreference" "SILENTLY_CONTINUE" "Lcom/example/lambdash/lambdash/engine/ActionPreference;" (.ref w2)) (S_IGNORE : Sta Z h0 "com/example/lambdash/lambdash/engine/ActionPreference" "IGNORE" "Lcom/example/lambdash/lambdash/engine/ActionPreference;" (.ref w4)) (ha4 : ¬ (a1 = w2)) (ha11 : ¬ (a1 = w4)) :
    MetFree l (⟨"com/example/lambdash/lambdash/engine/ActionPreference", "shows", "()Z"⟩ : MethodName) (head1 (Jvm.Cond.code (⟨"com/example/lambdash/lambdash/engine/ActionPreference", "shows", "()Z"⟩ : MethodName) prog_10_method_7_code 1 (some .boolean) :: ws) ({ frames := 0, cells := 0, slots := 0, locals := 0 } : Room)) (fun a U => a = #[(.ref a1)] ∧ Z.Warmed39 U.vm ∧ U.heap = h0) (fun _ _ _ _ _ => True) (fun _ U o U' => ∃ v L, o = .returned v ∧ OQ (.int (1 : Int32)) h0 n0 v U'.heap L ∧ FrameEnd U o U' L ({ frames := 0, cells := 0, slots := 0, locals := 0 } : Room).cells ({ frames := 0, cells := 0, slots := 0, locals := 0 } : Room).slots) := by
  refine MetFree.of_bodySF (plainFor_of_name pn_1) hisR ?_
  intro p e s m args below meth c s₁ Bd hml0 hP hK
  obtain ⟨rfl, hZ, hh⟩ := hP
  have hx := Bd.exec
  have hby := Bd.bytes
  have hml : c.maxLocals = 1 := hml0
  have hown : s.vm.findClass "com/example/lambdash/lambdash/engine/ActionPreference" = some m.cls := findClass_of_methodNamed Bd.named
  have hnm := (name_of_methodNamed Bd.named Bd.method).1
  have X0 : Stand p l e ({ frames := 0, cells := 0, slots := 0, locals := 0 } : Room) s m #[(.ref a1)] below meth c s₁ [] 0 0 := Stand.of_body Bd
  have e0 : s₁.heap = h0 := by rw [← hh, Bd.state]; rfl
  have N0 := Fr.nil n0
  have pre0 : ∀ t, Steps p.tables e below (s₁.setTop (mkF m 0 #[.val (.ref a1)] [])) t → Steps p.tables e below (s₁.setTop (entryFrame m #[(.ref a1)] 1)) t := fun t k => castTop (ef_1 m a1) k
  -- 3. LAWS
  obtain ⟨T3, X3, e3, st3⟩ := getS2 X0 hx hZ hown (host := "") (Or.inl (hw _ (List.mem_of_getElem? (i := 25) rfl))) Via.refl e0 S_SILENTLY_CONTINUE (g := (mkF m 1 #[.val (.ref a1)] [(.ref a1)])) rfl (hb hby d1_1)
  obtain ⟨T5, X5, e5, st5⟩ := getS2 X3 hx hZ hown (host := "") (Or.inl (hw _ (List.mem_of_getElem? (i := 26) rfl))) Via.refl e3 S_IGNORE (g := (mkF m 8 #[.val (.ref a1)] [(.ref a1)])) rfl (hb hby d1_8)
  obtain ⟨fs, hr, hrun, hended, hW, hsame⟩ := X5.leave (v := some (.int (1 : Int32))) (fun h => by rw [Bd.returns] at h; cases h)
  refine ⟨_, _, pre0 _ ?_, hrun, hended, _, _, rfl, ?_, ⟨_, rfl⟩, hW, hsame.mono (by decide) (by decide)⟩
  -- 4. STEPS
  · show Steps p.tables e below (s₁.setTop (mkF m 0 #[.val (.ref a1)] [])) _
    refine XS.aloadN X0.here hx rfl (hb hby d1_0) rfl rfl ?_
    show Steps p.tables e below (s₁.setTop (mkF m 1 #[.val (.ref a1)] [(.ref a1)])) _
    refine st3 _ ?_
    show Steps p.tables e below (T3.setTop (mkF m 4 #[.val (.ref a1)] [(.ref w2), (.ref a1)])) _
    refine Jvm.RoadKit.acmp (g := (mkF m 4 #[.val (.ref a1)] [(.ref w2), (.ref a1)])) X3 hx rfl rfl rfl (pc0 := 4) (pc' := 7) (same := false) rfl (hb hby d1_4) rfl (decide_eq_false fun q => ha4 (Value.ref.inj q)) (by decide) (by decide) ?_
    show Steps p.tables e below (T3.setTop (mkF m 7 #[.val (.ref a1)] [])) _
    refine XS.aloadN X3.here hx rfl (hb hby d1_7) rfl rfl ?_
    show Steps p.tables e below (T3.setTop (mkF m 8 #[.val (.ref a1)] [(.ref a1)])) _
    refine st5 _ ?_
    show Steps p.tables e below (T5.setTop (mkF m 11 #[.val (.ref a1)] [(.ref w4), (.ref a1)])) _
    refine Jvm.RoadKit.acmp (g := (mkF m 11 #[.val (.ref a1)] [(.ref w4), (.ref a1)])) X5 hx rfl rfl rfl (pc0 := 11) (pc' := 14) (same := false) rfl (hb hby d1_11) rfl (decide_eq_false fun q => ha11 (Value.ref.inj q)) (by decide) (by decide) ?_
    show Steps p.tables e below (T5.setTop (mkF m 14 #[.val (.ref a1)] [])) _
    refine XS.iconst X5.here hx rfl (hb hby d1_14) ?_
    show Steps p.tables e below (T5.setTop (mkF m 15 #[.val (.ref a1)] [(.int (1 : Int32))])) _
    refine XS.goto X5.here hx rfl (pc0 := 15) (pc' := 19) rfl (hb hby d1_15) (by decide) (by decide) ?_
    show Steps p.tables e below (T5.setTop (mkF m 19 #[.val (.ref a1)] [(.int (1 : Int32))])) _
    exact retN X5 hx (t := .boolean) Bd.returns (by simp) (hb hby d1_19) hr
  · show OQ (.int (1 : Int32)) h0 n0 _ T5.heap _
    rw [e5]
    exact ⟨rfl, N0, rfl⟩
theorem pn_0 : plainName "com/example/lambdash/lambdash/engine/ActionPreferenceShowsPinLaw" = true := by first | (simp [plainName, overriddenIn]; done) | decide +kernel
theorem pd_0_0 : parseMethodDescriptor "()Z" = some ⟨[], some .boolean⟩ := by decide +kernel
theorem ef_0 (m : MethodId) (x0 : Int32) : entryFrame m #[(.int x0)] maxLocals = mkF m 0 #[.val (.int x0), .unset, .unset, .unset] [] := by first | (simp [entryFrame, mkF, argsToLocals, Value.category, maxLocals]; done) | rfl
set_option maxRecDepth 65536 in
set_option maxHeartbeats 40000000 in
theorem rm0 (l : Launch) (Z : State) (a0 : Array Value) (hw : ∀ d ∈ tables_1, d.before a0 Z = true) (ws : List Jvm.Cond) (p1 : Int32) (w3 : Addr) (w6 : Addr) (w9 : Addr) (w12 : Addr) (w15 : Addr) (w18 : Addr) (w21 : Addr) (w32 : Addr) (w34 : Int32) (h0 : Heap) (n0 : Nat) (Z0 : n0 ≤ h0.size) (S_SILENTLY_CONTINUE : Sta Z h0 "com/example/lambdash/lambdash/engine/ActionPreference" "SILENTLY_CONTINUE" "Lcom/example/lambdash/lambdash/engine/ActionPreference;" (.ref w3)) (S_STOP : Sta Z h0 "com/example/lambdash/lambdash/engine/ActionPreference" "STOP" "Lcom/example/lambdash/lambdash/engine/ActionPreference;" (.ref w6)) (S_CONTINUE : Sta Z h0 "com/example/lambdash/lambdash/engine/ActionPreference" "CONTINUE" "Lcom/example/lambdash/lambdash/engine/ActionPreference;" (.ref w9)) (S_INQUIRE : Sta Z h0 "com/example/lambdash/lambdash/engine/ActionPreference" "INQUIRE" "Lcom/example/lambdash/lambdash/engine/ActionPreference;" (.ref w12)) (S_IGNORE : Sta Z h0 "com/example/lambdash/lambdash/engine/ActionPreference" "IGNORE" "Lcom/example/lambdash/lambdash/engine/ActionPreference;" (.ref w15)) (S_SUSPEND : Sta Z h0 "com/example/lambdash/lambdash/engine/ActionPreference" "SUSPEND" "Lcom/example/lambdash/lambdash/engine/ActionPreference;" (.ref w18)) (S_BREAK : Sta Z h0 "com/example/lambdash/lambdash/engine/ActionPreference" "BREAK" "Lcom/example/lambdash/lambdash/engine/ActionPreference;" (.ref w21)) (E_w32 : Exa Z h0 w32 "com/example/lambdash/lambdash/engine/ActionPreference") (EE_w3 : Exa Z h0 w3 "com/example/lambdash/lambdash/engine/ActionPreference") (EE_w6 : Exa Z h0 w6 "com/example/lambdash/lambdash/engine/ActionPreference") (EE_w9 : Exa Z h0 w9 "com/example/lambdash/lambdash/engine/ActionPreference") (EE_w12 : Exa Z h0 w12 "com/example/lambdash/lambdash/engine/ActionPreference") (EE_w15 : Exa Z h0 w15 "com/example/lambdash/lambdash/engine/ActionPreference") (EE_w18 : Exa Z h0 w18 "com/example/lambdash/lambdash/engine/ActionPreference") (EE_w21 : Exa Z h0 w21 "com/example/lambdash/lambdash/engine/ActionPreference") (hk0 : ¬ ((p1 &&& (2147483647 : Int32)) % (7 : Int32)) < 0) (hk7 : ((p1 &&& (2147483647 : Int32)) % (7 : Int32)) < 7) (hg93 : ([(.ref w3), (.ref w6), (.ref w9), (.ref w12), (.ref w15), (.ref w18), (.ref w21)] : List Value).getD ((p1 &&& (2147483647 : Int32)) % (7 : Int32)).toNatClampNeg .null = .ref w32) (hg99 : ([(.int (0 : Int32)), (.int (1 : Int32)), (.int (1 : Int32)), (.int (1 : Int32)), (.int (0 : Int32)), (.int (1 : Int32)), (.int (1 : Int32))] : List Value).getD ((p1 &&& (2147483647 : Int32)) % (7 : Int32)).toNatClampNeg (.int (0 : Int32)) = .int w34) (B1 : ∀ h, Keep h0 h [] → OM l (⟨"com/example/lambdash/lambdash/engine/ActionPreference", "shows", "()Z"⟩ : MethodName) prog_10_method_7_code 1 (some .boolean) [] ({ frames := 0, cells := 0, slots := 0, locals := 0 } : Room) Z #[(.ref w32)] h n0 (.int w34)) :
    MetFree l x (head1 (Jvm.Cond.code x code maxLocals ret :: ws) room_1) (fun a U => a = #[(.int p1)] ∧ Z.Warmed39 U.vm ∧ U.heap = h0) (fun _ _ _ _ _ => True) (fun _ U o U' => ∃ v L, o = .returned v ∧ LQ n0 v U'.heap L ∧ FrameEnd U o U' L room_1.cells room_1.slots) := by
  refine MetFree.of_bodySF (plainFor_of_name pn_0) hisR ?_
  intro p e s m args below meth c s₁ Bd hml0 hP hK
  obtain ⟨rfl, hZ, hh⟩ := hP
  have hx := Bd.exec
  have hby := Bd.bytes
  have hml : c.maxLocals = 4 := hml0
  have hown : s.vm.findClass "com/example/lambdash/lambdash/engine/ActionPreferenceShowsPinLaw" = some m.cls := findClass_of_methodNamed Bd.named
  have hnm := (name_of_methodNamed Bd.named Bd.method).1
  have X0 : Stand p l e room_1 s m #[(.int p1)] below meth c s₁ [] 0 0 := Stand.of_body Bd
  have e0 : s₁.heap = h0 := by rw [← hh, Bd.state]; rfl
  have N0 := Fr.nil n0
  have pre0 : ∀ t, Steps p.tables e below (s₁.setTop (mkF m 0 #[.val (.int p1), .unset, .unset, .unset] [])) t → Steps p.tables e below (s₁.setTop (entryFrame m #[(.int p1)] maxLocals)) t := fun t k => castTop (ef_0 m p1) k
  -- 3. LAWS
  obtain ⟨T2, h2, k2, X2, e2, E2, A2, O2, st2⟩ := newR X0 hx hZ hown (hw _ (List.mem_of_getElem? (i := 1) rfl)) (hw _ (List.mem_of_getElem? (i := 2) rfl)) e0 (g := (mkF m 10 #[.val (.int p1), .val (.int ((p1 &&& (2147483647 : Int32)) % (7 : Int32))), .unset, .unset] [(.int (7 : Int32))])) rfl (hb hby at_10) rfl (by decide) (cap := 7) (by decide) (by decide) (by decide) (by decide)
  obtain ⟨b2, g2⟩ : ∃ z, z = h0.size := ⟨_, rfl⟩      -- the fresh array's address
  rw [← g2] at A2 st2
  have V_b2 : Arv Z h2 b2 k2 (.object "com/example/lambdash/lambdash/engine/ActionPreference") (7 : Int32) [.null, .null, .null, .null, .null, .null, .null] .null := (Arv.new A2 (by decide)).pad (pad_rep [] .null 7)
  have g_b2 : n0 ≤ b2 := Nat.le_trans Z0 (Nat.le_of_eq g2.symm)
  have sz_b2 : h0.size ≤ b2 := (Nat.le_trans (Keep.refl h0 []).1 (Nat.le_of_eq g2.symm))
  have K2 : Keep h0 h2 [] := (Keep.refl h0 []).ext E2
  obtain ⟨T4, X4, e4, st4⟩ := getS2 X2 hx hZ hown (host := "") (Or.inl (hw _ (List.mem_of_getElem? (i := 3) rfl))) Via.refl e2 (own_staK S_SILENTLY_CONTINUE K2) (g := (mkF m 15 #[.val (.int p1), .val (.int ((p1 &&& (2147483647 : Int32)) % (7 : Int32))), .unset, .unset] [(.int (0 : Int32)), (.ref b2), (.ref b2)])) rfl (hb hby at_15)
  obtain ⟨cl_b2_18, Ar_b2, q_b2, S_b2, N_b2, H_b2, G_b2⟩ := V_b2
  have hin18 : ¬ ((0 : Int32) < 0 ∨ cl_b2_18.slots.size ≤ ((0 : Int32)).toNatClampNeg) := inb_of S_b2 ⟨by decide, by decide⟩
  have Sto18 := Sto.ofV Ar_b2 q_b2 O2 (Ins.self (EE_w3.keep K2))
  obtain ⟨T5, h5, X5, e5, W5, st5⟩ := stR X4 hx hZ e4 Ar_b2 (j := (0 : Int32)) hin18 rfl Sto18 (g := (mkF m 18 #[.val (.int p1), .val (.int ((p1 &&& (2147483647 : Int32)) % (7 : Int32))), .unset, .unset] [(.ref w3), (.int (0 : Int32)), (.ref b2), (.ref b2)])) rfl rfl (hb hby at_18)
  have V_b2_5 := Arv.set Ar_b2 q_b2 S_b2 N_b2 H_b2 G_b2 (v := .ref w3) rfl W5 0 rfl (Nat.le_of_ble_eq_true rfl)
  have N5 := Fr.snoc X5 N0 g_b2
  have K5 : Keep h0 h5 [] := K2.wr W5 (Or.inr sz_b2)
  obtain ⟨T7, X7, e7, st7⟩ := getS2 X5 hx hZ hown (host := "") (Or.inl (hw _ (List.mem_of_getElem? (i := 7) rfl))) Via.refl e5 (own_staK S_STOP K5) (g := (mkF m 21 #[.val (.int p1), .val (.int ((p1 &&& (2147483647 : Int32)) % (7 : Int32))), .unset, .unset] [(.int (1 : Int32)), (.ref b2), (.ref b2)])) rfl (hb hby at_21)
  obtain ⟨cl_b2_24, Ar_b2, q_b2, S_b2, N_b2, H_b2, G_b2⟩ := V_b2_5
  have hin24 : ¬ ((1 : Int32) < 0 ∨ cl_b2_24.slots.size ≤ ((1 : Int32)).toNatClampNeg) := inb_of S_b2 ⟨by decide, by decide⟩
  have Sto24 := Sto.ofV Ar_b2 q_b2 O2 (Ins.self (EE_w6.keep K5))
  obtain ⟨T8, h8, X8, e8, W8, st8⟩ := stR X7 hx hZ e7 Ar_b2 (j := (1 : Int32)) hin24 rfl Sto24 (g := (mkF m 24 #[.val (.int p1), .val (.int ((p1 &&& (2147483647 : Int32)) % (7 : Int32))), .unset, .unset] [(.ref w6), (.int (1 : Int32)), (.ref b2), (.ref b2)])) rfl rfl (hb hby at_24)
  have V_b2_8 := Arv.set Ar_b2 q_b2 S_b2 N_b2 H_b2 G_b2 (v := .ref w6) rfl W8 1 rfl (Nat.le_of_ble_eq_true rfl)
  have N8 := Fr.snoc X8 N5 g_b2
  have K8 : Keep h0 h8 [] := K5.wr W8 (Or.inr sz_b2)
  obtain ⟨T10, X10, e10, st10⟩ := getS2 X8 hx hZ hown (host := "") (Or.inl (hw _ (List.mem_of_getElem? (i := 9) rfl))) Via.refl e8 (own_staK S_CONTINUE K8) (g := (mkF m 27 #[.val (.int p1), .val (.int ((p1 &&& (2147483647 : Int32)) % (7 : Int32))), .unset, .unset] [(.int (2 : Int32)), (.ref b2), (.ref b2)])) rfl (hb hby at_27)
  obtain ⟨cl_b2_30, Ar_b2, q_b2, S_b2, N_b2, H_b2, G_b2⟩ := V_b2_8
  have hin30 : ¬ ((2 : Int32) < 0 ∨ cl_b2_30.slots.size ≤ ((2 : Int32)).toNatClampNeg) := inb_of S_b2 ⟨by decide, by decide⟩
  have Sto30 := Sto.ofV Ar_b2 q_b2 O2 (Ins.self (EE_w9.keep K8))
  obtain ⟨T11, h11, X11, e11, W11, st11⟩ := stR X10 hx hZ e10 Ar_b2 (j := (2 : Int32)) hin30 rfl Sto30 (g := (mkF m 30 #[.val (.int p1), .val (.int ((p1 &&& (2147483647 : Int32)) % (7 : Int32))), .unset, .unset] [(.ref w9), (.int (2 : Int32)), (.ref b2), (.ref b2)])) rfl rfl (hb hby at_30)
  have V_b2_11 := Arv.set Ar_b2 q_b2 S_b2 N_b2 H_b2 G_b2 (v := .ref w9) rfl W11 2 rfl (Nat.le_of_ble_eq_true rfl)
  have N11 := Fr.snoc X11 N8 g_b2
  have K11 : Keep h0 h11 [] := K8.wr W11 (Or.inr sz_b2)
  obtain ⟨T13, X13, e13, st13⟩ := getS2 X11 hx hZ hown (host := "") (Or.inl (hw _ (List.mem_of_getElem? (i := 11) rfl))) Via.refl e11 (own_staK S_INQUIRE K11) (g := (mkF m 33 #[.val (.int p1), .val (.int ((p1 &&& (2147483647 : Int32)) % (7 : Int32))), .unset, .unset] [(.int (3 : Int32)), (.ref b2), (.ref b2)])) rfl (hb hby at_33)
  obtain ⟨cl_b2_36, Ar_b2, q_b2, S_b2, N_b2, H_b2, G_b2⟩ := V_b2_11
  have hin36 : ¬ ((3 : Int32) < 0 ∨ cl_b2_36.slots.size ≤ ((3 : Int32)).toNatClampNeg) := inb_of S_b2 ⟨by decide, by decide⟩
  have Sto36 := Sto.ofV Ar_b2 q_b2 O2 (Ins.self (EE_w12.keep K11))
  obtain ⟨T14, h14, X14, e14, W14, st14⟩ := stR X13 hx hZ e13 Ar_b2 (j := (3 : Int32)) hin36 rfl Sto36 (g := (mkF m 36 #[.val (.int p1), .val (.int ((p1 &&& (2147483647 : Int32)) % (7 : Int32))), .unset, .unset] [(.ref w12), (.int (3 : Int32)), (.ref b2), (.ref b2)])) rfl rfl (hb hby at_36)
  have V_b2_14 := Arv.set Ar_b2 q_b2 S_b2 N_b2 H_b2 G_b2 (v := .ref w12) rfl W14 3 rfl (Nat.le_of_ble_eq_true rfl)
  have N14 := Fr.snoc X14 N11 g_b2
  have K14 : Keep h0 h14 [] := K11.wr W14 (Or.inr sz_b2)
  obtain ⟨T16, X16, e16, st16⟩ := getS2 X14 hx hZ hown (host := "") (Or.inl (hw _ (List.mem_of_getElem? (i := 13) rfl))) Via.refl e14 (own_staK S_IGNORE K14) (g := (mkF m 39 #[.val (.int p1), .val (.int ((p1 &&& (2147483647 : Int32)) % (7 : Int32))), .unset, .unset] [(.int (4 : Int32)), (.ref b2), (.ref b2)])) rfl (hb hby at_39)
  obtain ⟨cl_b2_42, Ar_b2, q_b2, S_b2, N_b2, H_b2, G_b2⟩ := V_b2_14
  have hin42 : ¬ ((4 : Int32) < 0 ∨ cl_b2_42.slots.size ≤ ((4 : Int32)).toNatClampNeg) := inb_of S_b2 ⟨by decide, by decide⟩
  have Sto42 := Sto.ofV Ar_b2 q_b2 O2 (Ins.self (EE_w15.keep K14))
  obtain ⟨T17, h17, X17, e17, W17, st17⟩ := stR X16 hx hZ e16 Ar_b2 (j := (4 : Int32)) hin42 rfl Sto42 (g := (mkF m 42 #[.val (.int p1), .val (.int ((p1 &&& (2147483647 : Int32)) % (7 : Int32))), .unset, .unset] [(.ref w15), (.int (4 : Int32)), (.ref b2), (.ref b2)])) rfl rfl (hb hby at_42)
  have V_b2_17 := Arv.set Ar_b2 q_b2 S_b2 N_b2 H_b2 G_b2 (v := .ref w15) rfl W17 4 rfl (Nat.le_of_ble_eq_true rfl)
  have N17 := Fr.snoc X17 N14 g_b2
  have K17 : Keep h0 h17 [] := K14.wr W17 (Or.inr sz_b2)
  obtain ⟨T19, X19, e19, st19⟩ := getS2 X17 hx hZ hown (host := "") (Or.inl (hw _ (List.mem_of_getElem? (i := 15) rfl))) Via.refl e17 (own_staK S_SUSPEND K17) (g := (mkF m 45 #[.val (.int p1), .val (.int ((p1 &&& (2147483647 : Int32)) % (7 : Int32))), .unset, .unset] [(.int (5 : Int32)), (.ref b2), (.ref b2)])) rfl (hb hby at_45)
  obtain ⟨cl_b2_48, Ar_b2, q_b2, S_b2, N_b2, H_b2, G_b2⟩ := V_b2_17
  have hin48 : ¬ ((5 : Int32) < 0 ∨ cl_b2_48.slots.size ≤ ((5 : Int32)).toNatClampNeg) := inb_of S_b2 ⟨by decide, by decide⟩
  have Sto48 := Sto.ofV Ar_b2 q_b2 O2 (Ins.self (EE_w18.keep K17))
  obtain ⟨T20, h20, X20, e20, W20, st20⟩ := stR X19 hx hZ e19 Ar_b2 (j := (5 : Int32)) hin48 rfl Sto48 (g := (mkF m 48 #[.val (.int p1), .val (.int ((p1 &&& (2147483647 : Int32)) % (7 : Int32))), .unset, .unset] [(.ref w18), (.int (5 : Int32)), (.ref b2), (.ref b2)])) rfl rfl (hb hby at_48)
  have V_b2_20 := Arv.set Ar_b2 q_b2 S_b2 N_b2 H_b2 G_b2 (v := .ref w18) rfl W20 5 rfl (Nat.le_of_ble_eq_true rfl)
  have N20 := Fr.snoc X20 N17 g_b2
  have K20 : Keep h0 h20 [] := K17.wr W20 (Or.inr sz_b2)
  obtain ⟨T22, X22, e22, st22⟩ := getS2 X20 hx hZ hown (host := "") (Or.inl (hw _ (List.mem_of_getElem? (i := 17) rfl))) Via.refl e20 (own_staK S_BREAK K20) (g := (mkF m 52 #[.val (.int p1), .val (.int ((p1 &&& (2147483647 : Int32)) % (7 : Int32))), .unset, .unset] [(.int (6 : Int32)), (.ref b2), (.ref b2)])) rfl (hb hby at_52)
  obtain ⟨cl_b2_55, Ar_b2, q_b2, S_b2, N_b2, H_b2, G_b2⟩ := V_b2_20
  have hin55 : ¬ ((6 : Int32) < 0 ∨ cl_b2_55.slots.size ≤ ((6 : Int32)).toNatClampNeg) := inb_of S_b2 ⟨by decide, by decide⟩
  have Sto55 := Sto.ofV Ar_b2 q_b2 O2 (Ins.self (EE_w21.keep K20))
  obtain ⟨T23, h23, X23, e23, W23, st23⟩ := stR X22 hx hZ e22 Ar_b2 (j := (6 : Int32)) hin55 rfl Sto55 (g := (mkF m 55 #[.val (.int p1), .val (.int ((p1 &&& (2147483647 : Int32)) % (7 : Int32))), .unset, .unset] [(.ref w21), (.int (6 : Int32)), (.ref b2), (.ref b2)])) rfl rfl (hb hby at_55)
  have V_b2_23 := Arv.set Ar_b2 q_b2 S_b2 N_b2 H_b2 G_b2 (v := .ref w21) rfl W23 6 rfl (Nat.le_of_ble_eq_true rfl)
  have N23 := Fr.snoc X23 N20 g_b2
  have K23 : Keep h0 h23 [] := K20.wr W23 (Or.inr sz_b2)
  obtain ⟨T24, h24, k24, X24, e24, E24, A24, st24⟩ := newP X23 hx hZ (hw _ (List.mem_of_getElem? (i := 19) rfl)) e23 (g := (mkF m 59 #[.val (.int p1), .val (.int ((p1 &&& (2147483647 : Int32)) % (7 : Int32))), .val (.ref b2), .unset] [(.int (7 : Int32))])) rfl (hb hby at_59) rfl (by decide) (cap := 7) (by decide) (by decide) (by decide) (by decide)
  obtain ⟨b24, g24⟩ : ∃ z, z = h23.size := ⟨_, rfl⟩      -- the fresh array's address
  rw [← g24] at A24 st24
  have V_b24 : Arv Z h24 b24 k24 .boolean (7 : Int32) [(.int (0 : Int32)), (.int (0 : Int32)), (.int (0 : Int32)), (.int (0 : Int32)), (.int (0 : Int32)), (.int (0 : Int32)), (.int (0 : Int32))] (.int (0 : Int32)) := (Arv.new A24 (by decide)).pad (pad_rep [] (.int (0 : Int32)) 7)
  have g_b24 : n0 ≤ b24 := Nat.le_trans (Nat.le_trans (Nat.le_trans (Nat.le_trans (Nat.le_trans (Nat.le_trans (Nat.le_trans (Nat.le_trans (Nat.le_trans Z0 E2.1) (Keep.of_wr W5).1) (Keep.of_wr W8).1) (Keep.of_wr W11).1) (Keep.of_wr W14).1) (Keep.of_wr W17).1) (Keep.of_wr W20).1) (Keep.of_wr W23).1) (Nat.le_of_eq g24.symm)
  have sz_b24 : h0.size ≤ b24 := (Nat.le_trans K23.1 (Nat.le_of_eq g24.symm))
  have K24 : Keep h0 h24 [] := K23.ext E24
  obtain ⟨cl_b24_64, Ar_b24, q_b24, S_b24, N_b24, H_b24, G_b24⟩ := V_b24      -- open the array's fact as it stands now (its cell, kind, length, elements)
  have hin64 : ¬ ((0 : Int32) < 0 ∨ cl_b24_64.slots.size ≤ ((0 : Int32)).toNatClampNeg) := inb_of S_b24 ⟨by decide, by decide⟩
  obtain ⟨T25, h25, X25, e25, W25, st25⟩ := stZ X24 hx hZ e24 Ar_b24 (j := (0 : Int32)) hin64 (g := (mkF m 64 #[.val (.int p1), .val (.int ((p1 &&& (2147483647 : Int32)) % (7 : Int32))), .val (.ref b2), .unset] [(.int (0 : Int32)), (.int (0 : Int32)), (.ref b24), (.ref b24)])) rfl rfl (hb hby at_64)
  have V_b24_25 := Arv.set Ar_b24 q_b24 S_b24 N_b24 H_b24 G_b24 (fits_nar_bool _) W25 0 rfl (Nat.le_of_ble_eq_true rfl)      -- the array as it stands now (the place must lie among its first values: Arv.pad with pad_rep lengthens them)
  have K25 : Keep h0 h25 [] := K24.wr W25 (Or.inr sz_b24)
  have N25 := Fr.snoc X25 N23 g_b24
  obtain ⟨cl_b24_68, Ar_b24, q_b24, S_b24, N_b24, H_b24, G_b24⟩ := V_b24_25      -- open the array's fact as it stands now (its cell, kind, length, elements)
  have hin68 : ¬ ((1 : Int32) < 0 ∨ cl_b24_68.slots.size ≤ ((1 : Int32)).toNatClampNeg) := inb_of S_b24 ⟨by decide, by decide⟩
  obtain ⟨T26, h26, X26, e26, W26, st26⟩ := stZ X25 hx hZ e25 Ar_b24 (j := (1 : Int32)) hin68 (g := (mkF m 68 #[.val (.int p1), .val (.int ((p1 &&& (2147483647 : Int32)) % (7 : Int32))), .val (.ref b2), .unset] [(.int (1 : Int32)), (.int (1 : Int32)), (.ref b24), (.ref b24)])) rfl rfl (hb hby at_68)
  have V_b24_26 := Arv.set Ar_b24 q_b24 S_b24 N_b24 H_b24 G_b24 (fits_nar_bool _) W26 1 rfl (Nat.le_of_ble_eq_true rfl)      -- the array as it stands now (the place must lie among its first values: Arv.pad with pad_rep lengthens them)
  have K26 : Keep h0 h26 [] := K25.wr W26 (Or.inr sz_b24)
  have N26 := Fr.snoc X26 N25 g_b24
  obtain ⟨cl_b24_72, Ar_b24, q_b24, S_b24, N_b24, H_b24, G_b24⟩ := V_b24_26      -- open the array's fact as it stands now (its cell, kind, length, elements)
  have hin72 : ¬ ((2 : Int32) < 0 ∨ cl_b24_72.slots.size ≤ ((2 : Int32)).toNatClampNeg) := inb_of S_b24 ⟨by decide, by decide⟩
  obtain ⟨T27, h27, X27, e27, W27, st27⟩ := stZ X26 hx hZ e26 Ar_b24 (j := (2 : Int32)) hin72 (g := (mkF m 72 #[.val (.int p1), .val (.int ((p1 &&& (2147483647 : Int32)) % (7 : Int32))), .val (.ref b2), .unset] [(.int (1 : Int32)), (.int (2 : Int32)), (.ref b24), (.ref b24)])) rfl rfl (hb hby at_72)
  have V_b24_27 := Arv.set Ar_b24 q_b24 S_b24 N_b24 H_b24 G_b24 (fits_nar_bool _) W27 2 rfl (Nat.le_of_ble_eq_true rfl)      -- the array as it stands now (the place must lie among its first values: Arv.pad with pad_rep lengthens them)
  have K27 : Keep h0 h27 [] := K26.wr W27 (Or.inr sz_b24)
  have N27 := Fr.snoc X27 N26 g_b24
  obtain ⟨cl_b24_76, Ar_b24, q_b24, S_b24, N_b24, H_b24, G_b24⟩ := V_b24_27      -- open the array's fact as it stands now (its cell, kind, length, elements)
  have hin76 : ¬ ((3 : Int32) < 0 ∨ cl_b24_76.slots.size ≤ ((3 : Int32)).toNatClampNeg) := inb_of S_b24 ⟨by decide, by decide⟩
  obtain ⟨T28, h28, X28, e28, W28, st28⟩ := stZ X27 hx hZ e27 Ar_b24 (j := (3 : Int32)) hin76 (g := (mkF m 76 #[.val (.int p1), .val (.int ((p1 &&& (2147483647 : Int32)) % (7 : Int32))), .val (.ref b2), .unset] [(.int (1 : Int32)), (.int (3 : Int32)), (.ref b24), (.ref b24)])) rfl rfl (hb hby at_76)
  have V_b24_28 := Arv.set Ar_b24 q_b24 S_b24 N_b24 H_b24 G_b24 (fits_nar_bool _) W28 3 rfl (Nat.le_of_ble_eq_true rfl)      -- the array as it stands now (the place must lie among its first values: Arv.pad with pad_rep lengthens them)
  have K28 : Keep h0 h28 [] := K27.wr W28 (Or.inr sz_b24)
  have N28 := Fr.snoc X28 N27 g_b24
  obtain ⟨cl_b24_80, Ar_b24, q_b24, S_b24, N_b24, H_b24, G_b24⟩ := V_b24_28      -- open the array's fact as it stands now (its cell, kind, length, elements)
  have hin80 : ¬ ((4 : Int32) < 0 ∨ cl_b24_80.slots.size ≤ ((4 : Int32)).toNatClampNeg) := inb_of S_b24 ⟨by decide, by decide⟩
  obtain ⟨T29, h29, X29, e29, W29, st29⟩ := stZ X28 hx hZ e28 Ar_b24 (j := (4 : Int32)) hin80 (g := (mkF m 80 #[.val (.int p1), .val (.int ((p1 &&& (2147483647 : Int32)) % (7 : Int32))), .val (.ref b2), .unset] [(.int (0 : Int32)), (.int (4 : Int32)), (.ref b24), (.ref b24)])) rfl rfl (hb hby at_80)
  have V_b24_29 := Arv.set Ar_b24 q_b24 S_b24 N_b24 H_b24 G_b24 (fits_nar_bool _) W29 4 rfl (Nat.le_of_ble_eq_true rfl)      -- the array as it stands now (the place must lie among its first values: Arv.pad with pad_rep lengthens them)
  have K29 : Keep h0 h29 [] := K28.wr W29 (Or.inr sz_b24)
  have N29 := Fr.snoc X29 N28 g_b24
  obtain ⟨cl_b24_84, Ar_b24, q_b24, S_b24, N_b24, H_b24, G_b24⟩ := V_b24_29      -- open the array's fact as it stands now (its cell, kind, length, elements)
  have hin84 : ¬ ((5 : Int32) < 0 ∨ cl_b24_84.slots.size ≤ ((5 : Int32)).toNatClampNeg) := inb_of S_b24 ⟨by decide, by decide⟩
  obtain ⟨T30, h30, X30, e30, W30, st30⟩ := stZ X29 hx hZ e29 Ar_b24 (j := (5 : Int32)) hin84 (g := (mkF m 84 #[.val (.int p1), .val (.int ((p1 &&& (2147483647 : Int32)) % (7 : Int32))), .val (.ref b2), .unset] [(.int (1 : Int32)), (.int (5 : Int32)), (.ref b24), (.ref b24)])) rfl rfl (hb hby at_84)
  have V_b24_30 := Arv.set Ar_b24 q_b24 S_b24 N_b24 H_b24 G_b24 (fits_nar_bool _) W30 5 rfl (Nat.le_of_ble_eq_true rfl)      -- the array as it stands now (the place must lie among its first values: Arv.pad with pad_rep lengthens them)
  have K30 : Keep h0 h30 [] := K29.wr W30 (Or.inr sz_b24)
  have N30 := Fr.snoc X30 N29 g_b24
  obtain ⟨cl_b24_89, Ar_b24, q_b24, S_b24, N_b24, H_b24, G_b24⟩ := V_b24_30      -- open the array's fact as it stands now (its cell, kind, length, elements)
  have hin89 : ¬ ((6 : Int32) < 0 ∨ cl_b24_89.slots.size ≤ ((6 : Int32)).toNatClampNeg) := inb_of S_b24 ⟨by decide, by decide⟩
  obtain ⟨T31, h31, X31, e31, W31, st31⟩ := stZ X30 hx hZ e30 Ar_b24 (j := (6 : Int32)) hin89 (g := (mkF m 89 #[.val (.int p1), .val (.int ((p1 &&& (2147483647 : Int32)) % (7 : Int32))), .val (.ref b2), .unset] [(.int (1 : Int32)), (.int (6 : Int32)), (.ref b24), (.ref b24)])) rfl rfl (hb hby at_89)
  have V_b24_31 := Arv.set Ar_b24 q_b24 S_b24 N_b24 H_b24 G_b24 (fits_nar_bool _) W31 6 rfl (Nat.le_of_ble_eq_true rfl)      -- the array as it stands now (the place must lie among its first values: Arv.pad with pad_rep lengthens them)
  have K31 : Keep h0 h31 [] := K30.wr W31 (Or.inr sz_b24)
  have N31 := Fr.snoc X31 N30 g_b24
  have ne_b : b2 ≠ b24 := Nat.ne_of_lt (Nat.lt_of_lt_of_le V_b2_23.lt (Nat.le_of_eq g24.symm))
  obtain ⟨cl_b2, Ar_b2, q_b2, S_b2, N_b2, H_b2, G_b2⟩ := ((((((((V_b2_23.ext E24).other W25 ne_b).other W26 ne_b).other W27 ne_b).other W28 ne_b).other W29 ne_b).other W30 ne_b).other W31 ne_b)
  have hin93 : ¬ (((p1 &&& (2147483647 : Int32)) % (7 : Int32)) < 0 ∨ cl_b2.slots.size ≤ ((p1 &&& (2147483647 : Int32)) % (7 : Int32)).toNatClampNeg) := inb_of S_b2 ⟨hk0, hk7⟩
  have hat93 : cl_b2.slots[((p1 &&& (2147483647 : Int32)) % (7 : Int32)).toNatClampNeg]? = some (.ref w32) := H_b2.at hin93 hg93
  obtain ⟨cl_b24, Ar_b24, q_b24, S_b24, N_b24, H_b24, G_b24⟩ := V_b24_31
  have hin99 : ¬ (((p1 &&& (2147483647 : Int32)) % (7 : Int32)) < 0 ∨ cl_b24.slots.size ≤ ((p1 &&& (2147483647 : Int32)) % (7 : Int32)).toNatClampNeg) := inb_of S_b24 ⟨hk0, hk7⟩
  have hat99 : cl_b24.slots[((p1 &&& (2147483647 : Int32)) % (7 : Int32)).toNatClampNeg]? = some (.int w34) := H_b24.at hin99 hg99
  -- pc 94: com/example/lambdash/lambdash/engine/ActionPreference.shows by the contract of the body that the receiver's class selects, rm1
  obtain ⟨cq33, kq33, q33a, q33b, q33c⟩ := isOf hZ e31 ((((((((((((((((E_w32.ext E2).wr W5).wr W8).wr W11).wr W14).wr W17).wr W20).wr W23).ext E24).wr W25).wr W26).wr W27).wr W28).wr W29).wr W30).wr W31)
  obtain ⟨_, _, ⟨T33, L33, k33, n33⟩, -, X33, ⟨Lc33, hQ33, l33, y33, z33⟩, st33⟩ := X31.virtualBack hx (y := (⟨"com/example/lambdash/lambdash/engine/ActionPreference", "shows", "()Z"⟩ : MethodName)) (z := (⟨"com/example/lambdash/lambdash/engine/ActionPreference", "shows", "()Z"⟩ : MethodName)) hown (mvT hZ (hw _ (List.mem_of_getElem? (i := 20) rfl))) (mvT hZ (hw _ (List.mem_of_getElem? (i := 21) rfl))) (notFace_of_selects (args := #[]) (mvT hZ (hw _ (List.mem_of_getElem? (i := 23) rfl)))) (mvT hZ (hw _ (List.mem_of_getElem? (i := 23) rfl))) (mvT hZ (hw _ (List.mem_of_getElem? (i := 22) rfl))) (by decide) (backOf (W := 0) (B1 _ K31) hZ (hw _ (List.mem_of_getElem? (i := 24) rfl)) (hw _ (List.mem_of_getElem? (i := 4) rfl)) (by decide) (by decide)) q33a q33c (g := (mkF m 94 #[.val (.int p1), .val (.int ((p1 &&& (2147483647 : Int32)) % (7 : Int32))), .val (.ref b2), .val (.ref b24)] [(.ref w32)])) rfl (by rw [hml]; rfl) (Steps.refl _) (argsL := []) (rest := []) (lenOf pd_0_0 rfl) rfl (by show 2 * 0 + _ ≤ _; exact Nat.le_of_eq rfl) (hb hby at_94) (fun _ _ => ⟨rfl, e31, (by decide : 2 + 0 ≤ _), (by decide : 14 + 0 ≤ _)⟩)
  dsimp only [Pt.U, Pt.locs, Pt.cells, Pt.slots] at X33 l33 y33 z33 st33 hQ33
  subst l33 y33 z33
  obtain ⟨rfl, N33q, e33q⟩ := hQ33      -- what it returned, that it wrote nothing old, and the rest of your Q1
  have N33 := Fr.app N31 N33q
  obtain ⟨fs, hr, hrun, hended, hW, hsame⟩ := X33.leave (v := some (.int (1 : Int32))) (fun h => by rw [Bd.returns] at h; cases h)
  refine ⟨_, _, pre0 _ ?_, hrun, hended, _, _, rfl, ?_, ⟨_, rfl⟩, hW, hsame.mono (by decide) (by decide)⟩
  -- 4. STEPS
  · show Steps p.tables e below (s₁.setTop (mkF m 0 #[.val (.int p1), .unset, .unset, .unset] [])) _
    refine XS.iloadN X0.here hx rfl (hb hby at_0) rfl ?_
    show Steps p.tables e below (s₁.setTop (mkF m 1 #[.val (.int p1), .unset, .unset, .unset] [(.int p1)])) _
    refine X0.ldcInt hx hown (mvT hZ (hw _ (List.mem_of_getElem? (i := 0) rfl))) (g := (mkF m 1 #[.val (.int p1), .unset, .unset, .unset] [(.int p1)])) rfl (hb hby at_1) _ ?_
    show Steps p.tables e below (s₁.setTop (mkF m 3 #[.val (.int p1), .unset, .unset, .unset] [(.int (2147483647 : Int32)), (.int p1)])) _
    refine XS.iand X0.here hx rfl (hb hby at_3) rfl ?_
    show Steps p.tables e below (s₁.setTop (mkF m 4 #[.val (.int p1), .unset, .unset, .unset] [(.int (p1 &&& (2147483647 : Int32)))])) _
    refine XS.bipush X0.here hx rfl (hb hby at_4) ?_
    show Steps p.tables e below (s₁.setTop (mkF m 6 #[.val (.int p1), .unset, .unset, .unset] [(.int (7 : Int32)), (.int (p1 &&& (2147483647 : Int32)))])) _
    refine iremM X0 hx rfl (hb hby at_6) rfl (by decide) ?_
    show Steps p.tables e below (s₁.setTop (mkF m 7 #[.val (.int p1), .unset, .unset, .unset] [(.int ((p1 &&& (2147483647 : Int32)) % (7 : Int32)))])) _
    refine XS.istoreN X0.here hx rfl (hb hby at_7) rfl (l' := #[.val (.int p1), .val (.int ((p1 &&& (2147483647 : Int32)) % (7 : Int32))), .unset, .unset]) rfl ?_
    show Steps p.tables e below (s₁.setTop (mkF m 8 #[.val (.int p1), .val (.int ((p1 &&& (2147483647 : Int32)) % (7 : Int32))), .unset, .unset] [])) _
    refine XS.bipush X0.here hx rfl (hb hby at_8) ?_
    show Steps p.tables e below (s₁.setTop (mkF m 10 #[.val (.int p1), .val (.int ((p1 &&& (2147483647 : Int32)) % (7 : Int32))), .unset, .unset] [(.int (7 : Int32))])) _
    refine st2 _ ?_
    show Steps p.tables e below (T2.setTop (mkF m 13 #[.val (.int p1), .val (.int ((p1 &&& (2147483647 : Int32)) % (7 : Int32))), .unset, .unset] [(.ref b2)])) _
    refine XS.dup X2.here hx rfl (hb hby at_13) rfl rfl ?_
    show Steps p.tables e below (T2.setTop (mkF m 14 #[.val (.int p1), .val (.int ((p1 &&& (2147483647 : Int32)) % (7 : Int32))), .unset, .unset] [(.ref b2), (.ref b2)])) _
    refine XS.iconst X2.here hx rfl (hb hby at_14) ?_
    show Steps p.tables e below (T2.setTop (mkF m 15 #[.val (.int p1), .val (.int ((p1 &&& (2147483647 : Int32)) % (7 : Int32))), .unset, .unset] [(.int (0 : Int32)), (.ref b2), (.ref b2)])) _
    refine st4 _ ?_
    show Steps p.tables e below (T4.setTop (mkF m 18 #[.val (.int p1), .val (.int ((p1 &&& (2147483647 : Int32)) % (7 : Int32))), .unset, .unset] [(.ref w3), (.int (0 : Int32)), (.ref b2), (.ref b2)])) _
    refine st5 _ ?_
    show Steps p.tables e below (T5.setTop (mkF m 19 #[.val (.int p1), .val (.int ((p1 &&& (2147483647 : Int32)) % (7 : Int32))), .unset, .unset] [(.ref b2)])) _
    refine XS.dup X5.here hx rfl (hb hby at_19) rfl rfl ?_
    show Steps p.tables e below (T5.setTop (mkF m 20 #[.val (.int p1), .val (.int ((p1 &&& (2147483647 : Int32)) % (7 : Int32))), .unset, .unset] [(.ref b2), (.ref b2)])) _
    refine XS.iconst X5.here hx rfl (hb hby at_20) ?_
    show Steps p.tables e below (T5.setTop (mkF m 21 #[.val (.int p1), .val (.int ((p1 &&& (2147483647 : Int32)) % (7 : Int32))), .unset, .unset] [(.int (1 : Int32)), (.ref b2), (.ref b2)])) _
    refine st7 _ ?_
    show Steps p.tables e below (T7.setTop (mkF m 24 #[.val (.int p1), .val (.int ((p1 &&& (2147483647 : Int32)) % (7 : Int32))), .unset, .unset] [(.ref w6), (.int (1 : Int32)), (.ref b2), (.ref b2)])) _
    refine st8 _ ?_
    show Steps p.tables e below (T8.setTop (mkF m 25 #[.val (.int p1), .val (.int ((p1 &&& (2147483647 : Int32)) % (7 : Int32))), .unset, .unset] [(.ref b2)])) _
    refine XS.dup X8.here hx rfl (hb hby at_25) rfl rfl ?_
    show Steps p.tables e below (T8.setTop (mkF m 26 #[.val (.int p1), .val (.int ((p1 &&& (2147483647 : Int32)) % (7 : Int32))), .unset, .unset] [(.ref b2), (.ref b2)])) _
    refine XS.iconst X8.here hx rfl (hb hby at_26) ?_
    show Steps p.tables e below (T8.setTop (mkF m 27 #[.val (.int p1), .val (.int ((p1 &&& (2147483647 : Int32)) % (7 : Int32))), .unset, .unset] [(.int (2 : Int32)), (.ref b2), (.ref b2)])) _
    refine st10 _ ?_
    show Steps p.tables e below (T10.setTop (mkF m 30 #[.val (.int p1), .val (.int ((p1 &&& (2147483647 : Int32)) % (7 : Int32))), .unset, .unset] [(.ref w9), (.int (2 : Int32)), (.ref b2), (.ref b2)])) _
    refine st11 _ ?_
    show Steps p.tables e below (T11.setTop (mkF m 31 #[.val (.int p1), .val (.int ((p1 &&& (2147483647 : Int32)) % (7 : Int32))), .unset, .unset] [(.ref b2)])) _
    refine XS.dup X11.here hx rfl (hb hby at_31) rfl rfl ?_
    show Steps p.tables e below (T11.setTop (mkF m 32 #[.val (.int p1), .val (.int ((p1 &&& (2147483647 : Int32)) % (7 : Int32))), .unset, .unset] [(.ref b2), (.ref b2)])) _
    refine XS.iconst X11.here hx rfl (hb hby at_32) ?_
    show Steps p.tables e below (T11.setTop (mkF m 33 #[.val (.int p1), .val (.int ((p1 &&& (2147483647 : Int32)) % (7 : Int32))), .unset, .unset] [(.int (3 : Int32)), (.ref b2), (.ref b2)])) _
    refine st13 _ ?_
    show Steps p.tables e below (T13.setTop (mkF m 36 #[.val (.int p1), .val (.int ((p1 &&& (2147483647 : Int32)) % (7 : Int32))), .unset, .unset] [(.ref w12), (.int (3 : Int32)), (.ref b2), (.ref b2)])) _
    refine st14 _ ?_
    show Steps p.tables e below (T14.setTop (mkF m 37 #[.val (.int p1), .val (.int ((p1 &&& (2147483647 : Int32)) % (7 : Int32))), .unset, .unset] [(.ref b2)])) _
    refine XS.dup X14.here hx rfl (hb hby at_37) rfl rfl ?_
    show Steps p.tables e below (T14.setTop (mkF m 38 #[.val (.int p1), .val (.int ((p1 &&& (2147483647 : Int32)) % (7 : Int32))), .unset, .unset] [(.ref b2), (.ref b2)])) _
    refine XS.iconst X14.here hx rfl (hb hby at_38) ?_
    show Steps p.tables e below (T14.setTop (mkF m 39 #[.val (.int p1), .val (.int ((p1 &&& (2147483647 : Int32)) % (7 : Int32))), .unset, .unset] [(.int (4 : Int32)), (.ref b2), (.ref b2)])) _
    refine st16 _ ?_
    show Steps p.tables e below (T16.setTop (mkF m 42 #[.val (.int p1), .val (.int ((p1 &&& (2147483647 : Int32)) % (7 : Int32))), .unset, .unset] [(.ref w15), (.int (4 : Int32)), (.ref b2), (.ref b2)])) _
    refine st17 _ ?_
    show Steps p.tables e below (T17.setTop (mkF m 43 #[.val (.int p1), .val (.int ((p1 &&& (2147483647 : Int32)) % (7 : Int32))), .unset, .unset] [(.ref b2)])) _
    refine XS.dup X17.here hx rfl (hb hby at_43) rfl rfl ?_
    show Steps p.tables e below (T17.setTop (mkF m 44 #[.val (.int p1), .val (.int ((p1 &&& (2147483647 : Int32)) % (7 : Int32))), .unset, .unset] [(.ref b2), (.ref b2)])) _
    refine XS.iconst X17.here hx rfl (hb hby at_44) ?_
    show Steps p.tables e below (T17.setTop (mkF m 45 #[.val (.int p1), .val (.int ((p1 &&& (2147483647 : Int32)) % (7 : Int32))), .unset, .unset] [(.int (5 : Int32)), (.ref b2), (.ref b2)])) _
    refine st19 _ ?_
    show Steps p.tables e below (T19.setTop (mkF m 48 #[.val (.int p1), .val (.int ((p1 &&& (2147483647 : Int32)) % (7 : Int32))), .unset, .unset] [(.ref w18), (.int (5 : Int32)), (.ref b2), (.ref b2)])) _
    refine st20 _ ?_
    show Steps p.tables e below (T20.setTop (mkF m 49 #[.val (.int p1), .val (.int ((p1 &&& (2147483647 : Int32)) % (7 : Int32))), .unset, .unset] [(.ref b2)])) _
    refine XS.dup X20.here hx rfl (hb hby at_49) rfl rfl ?_
    show Steps p.tables e below (T20.setTop (mkF m 50 #[.val (.int p1), .val (.int ((p1 &&& (2147483647 : Int32)) % (7 : Int32))), .unset, .unset] [(.ref b2), (.ref b2)])) _
    refine XS.bipush X20.here hx rfl (hb hby at_50) ?_
    show Steps p.tables e below (T20.setTop (mkF m 52 #[.val (.int p1), .val (.int ((p1 &&& (2147483647 : Int32)) % (7 : Int32))), .unset, .unset] [(.int (6 : Int32)), (.ref b2), (.ref b2)])) _
    refine st22 _ ?_
    show Steps p.tables e below (T22.setTop (mkF m 55 #[.val (.int p1), .val (.int ((p1 &&& (2147483647 : Int32)) % (7 : Int32))), .unset, .unset] [(.ref w21), (.int (6 : Int32)), (.ref b2), (.ref b2)])) _
    refine st23 _ ?_
    show Steps p.tables e below (T23.setTop (mkF m 56 #[.val (.int p1), .val (.int ((p1 &&& (2147483647 : Int32)) % (7 : Int32))), .unset, .unset] [(.ref b2)])) _
    refine XS.astoreN X23.here hx rfl (hb hby at_56) rfl rfl (l' := #[.val (.int p1), .val (.int ((p1 &&& (2147483647 : Int32)) % (7 : Int32))), .val (.ref b2), .unset]) rfl ?_
    show Steps p.tables e below (T23.setTop (mkF m 57 #[.val (.int p1), .val (.int ((p1 &&& (2147483647 : Int32)) % (7 : Int32))), .val (.ref b2), .unset] [])) _
    refine XS.bipush X23.here hx rfl (hb hby at_57) ?_
    show Steps p.tables e below (T23.setTop (mkF m 59 #[.val (.int p1), .val (.int ((p1 &&& (2147483647 : Int32)) % (7 : Int32))), .val (.ref b2), .unset] [(.int (7 : Int32))])) _
    refine st24 _ ?_
    show Steps p.tables e below (T24.setTop (mkF m 61 #[.val (.int p1), .val (.int ((p1 &&& (2147483647 : Int32)) % (7 : Int32))), .val (.ref b2), .unset] [(.ref b24)])) _
    refine XS.dup X24.here hx rfl (hb hby at_61) rfl rfl ?_
    show Steps p.tables e below (T24.setTop (mkF m 62 #[.val (.int p1), .val (.int ((p1 &&& (2147483647 : Int32)) % (7 : Int32))), .val (.ref b2), .unset] [(.ref b24), (.ref b24)])) _
    refine XS.iconst X24.here hx rfl (hb hby at_62) ?_
    show Steps p.tables e below (T24.setTop (mkF m 63 #[.val (.int p1), .val (.int ((p1 &&& (2147483647 : Int32)) % (7 : Int32))), .val (.ref b2), .unset] [(.int (0 : Int32)), (.ref b24), (.ref b24)])) _
    refine XS.iconst X24.here hx rfl (hb hby at_63) ?_
    show Steps p.tables e below (T24.setTop (mkF m 64 #[.val (.int p1), .val (.int ((p1 &&& (2147483647 : Int32)) % (7 : Int32))), .val (.ref b2), .unset] [(.int (0 : Int32)), (.int (0 : Int32)), (.ref b24), (.ref b24)])) _
    refine st25 _ ?_
    show Steps p.tables e below (T25.setTop (mkF m 65 #[.val (.int p1), .val (.int ((p1 &&& (2147483647 : Int32)) % (7 : Int32))), .val (.ref b2), .unset] [(.ref b24)])) _
    refine XS.dup X25.here hx rfl (hb hby at_65) rfl rfl ?_
    show Steps p.tables e below (T25.setTop (mkF m 66 #[.val (.int p1), .val (.int ((p1 &&& (2147483647 : Int32)) % (7 : Int32))), .val (.ref b2), .unset] [(.ref b24), (.ref b24)])) _
    refine XS.iconst X25.here hx rfl (hb hby at_66) ?_
    show Steps p.tables e below (T25.setTop (mkF m 67 #[.val (.int p1), .val (.int ((p1 &&& (2147483647 : Int32)) % (7 : Int32))), .val (.ref b2), .unset] [(.int (1 : Int32)), (.ref b24), (.ref b24)])) _
    refine XS.iconst X25.here hx rfl (hb hby at_67) ?_
    show Steps p.tables e below (T25.setTop (mkF m 68 #[.val (.int p1), .val (.int ((p1 &&& (2147483647 : Int32)) % (7 : Int32))), .val (.ref b2), .unset] [(.int (1 : Int32)), (.int (1 : Int32)), (.ref b24), (.ref b24)])) _
    refine st26 _ ?_
    show Steps p.tables e below (T26.setTop (mkF m 69 #[.val (.int p1), .val (.int ((p1 &&& (2147483647 : Int32)) % (7 : Int32))), .val (.ref b2), .unset] [(.ref b24)])) _
    refine XS.dup X26.here hx rfl (hb hby at_69) rfl rfl ?_
    show Steps p.tables e below (T26.setTop (mkF m 70 #[.val (.int p1), .val (.int ((p1 &&& (2147483647 : Int32)) % (7 : Int32))), .val (.ref b2), .unset] [(.ref b24), (.ref b24)])) _
    refine XS.iconst X26.here hx rfl (hb hby at_70) ?_
    show Steps p.tables e below (T26.setTop (mkF m 71 #[.val (.int p1), .val (.int ((p1 &&& (2147483647 : Int32)) % (7 : Int32))), .val (.ref b2), .unset] [(.int (2 : Int32)), (.ref b24), (.ref b24)])) _
    refine XS.iconst X26.here hx rfl (hb hby at_71) ?_
    show Steps p.tables e below (T26.setTop (mkF m 72 #[.val (.int p1), .val (.int ((p1 &&& (2147483647 : Int32)) % (7 : Int32))), .val (.ref b2), .unset] [(.int (1 : Int32)), (.int (2 : Int32)), (.ref b24), (.ref b24)])) _
    refine st27 _ ?_
    show Steps p.tables e below (T27.setTop (mkF m 73 #[.val (.int p1), .val (.int ((p1 &&& (2147483647 : Int32)) % (7 : Int32))), .val (.ref b2), .unset] [(.ref b24)])) _
    refine XS.dup X27.here hx rfl (hb hby at_73) rfl rfl ?_
    show Steps p.tables e below (T27.setTop (mkF m 74 #[.val (.int p1), .val (.int ((p1 &&& (2147483647 : Int32)) % (7 : Int32))), .val (.ref b2), .unset] [(.ref b24), (.ref b24)])) _
    refine XS.iconst X27.here hx rfl (hb hby at_74) ?_
    show Steps p.tables e below (T27.setTop (mkF m 75 #[.val (.int p1), .val (.int ((p1 &&& (2147483647 : Int32)) % (7 : Int32))), .val (.ref b2), .unset] [(.int (3 : Int32)), (.ref b24), (.ref b24)])) _
    refine XS.iconst X27.here hx rfl (hb hby at_75) ?_
    show Steps p.tables e below (T27.setTop (mkF m 76 #[.val (.int p1), .val (.int ((p1 &&& (2147483647 : Int32)) % (7 : Int32))), .val (.ref b2), .unset] [(.int (1 : Int32)), (.int (3 : Int32)), (.ref b24), (.ref b24)])) _
    refine st28 _ ?_
    show Steps p.tables e below (T28.setTop (mkF m 77 #[.val (.int p1), .val (.int ((p1 &&& (2147483647 : Int32)) % (7 : Int32))), .val (.ref b2), .unset] [(.ref b24)])) _
    refine XS.dup X28.here hx rfl (hb hby at_77) rfl rfl ?_
    show Steps p.tables e below (T28.setTop (mkF m 78 #[.val (.int p1), .val (.int ((p1 &&& (2147483647 : Int32)) % (7 : Int32))), .val (.ref b2), .unset] [(.ref b24), (.ref b24)])) _
    refine XS.iconst X28.here hx rfl (hb hby at_78) ?_
    show Steps p.tables e below (T28.setTop (mkF m 79 #[.val (.int p1), .val (.int ((p1 &&& (2147483647 : Int32)) % (7 : Int32))), .val (.ref b2), .unset] [(.int (4 : Int32)), (.ref b24), (.ref b24)])) _
    refine XS.iconst X28.here hx rfl (hb hby at_79) ?_
    show Steps p.tables e below (T28.setTop (mkF m 80 #[.val (.int p1), .val (.int ((p1 &&& (2147483647 : Int32)) % (7 : Int32))), .val (.ref b2), .unset] [(.int (0 : Int32)), (.int (4 : Int32)), (.ref b24), (.ref b24)])) _
    refine st29 _ ?_
    show Steps p.tables e below (T29.setTop (mkF m 81 #[.val (.int p1), .val (.int ((p1 &&& (2147483647 : Int32)) % (7 : Int32))), .val (.ref b2), .unset] [(.ref b24)])) _
    refine XS.dup X29.here hx rfl (hb hby at_81) rfl rfl ?_
    show Steps p.tables e below (T29.setTop (mkF m 82 #[.val (.int p1), .val (.int ((p1 &&& (2147483647 : Int32)) % (7 : Int32))), .val (.ref b2), .unset] [(.ref b24), (.ref b24)])) _
    refine XS.iconst X29.here hx rfl (hb hby at_82) ?_
    show Steps p.tables e below (T29.setTop (mkF m 83 #[.val (.int p1), .val (.int ((p1 &&& (2147483647 : Int32)) % (7 : Int32))), .val (.ref b2), .unset] [(.int (5 : Int32)), (.ref b24), (.ref b24)])) _
    refine XS.iconst X29.here hx rfl (hb hby at_83) ?_
    show Steps p.tables e below (T29.setTop (mkF m 84 #[.val (.int p1), .val (.int ((p1 &&& (2147483647 : Int32)) % (7 : Int32))), .val (.ref b2), .unset] [(.int (1 : Int32)), (.int (5 : Int32)), (.ref b24), (.ref b24)])) _
    refine st30 _ ?_
    show Steps p.tables e below (T30.setTop (mkF m 85 #[.val (.int p1), .val (.int ((p1 &&& (2147483647 : Int32)) % (7 : Int32))), .val (.ref b2), .unset] [(.ref b24)])) _
    refine XS.dup X30.here hx rfl (hb hby at_85) rfl rfl ?_
    show Steps p.tables e below (T30.setTop (mkF m 86 #[.val (.int p1), .val (.int ((p1 &&& (2147483647 : Int32)) % (7 : Int32))), .val (.ref b2), .unset] [(.ref b24), (.ref b24)])) _
    refine XS.bipush X30.here hx rfl (hb hby at_86) ?_
    show Steps p.tables e below (T30.setTop (mkF m 88 #[.val (.int p1), .val (.int ((p1 &&& (2147483647 : Int32)) % (7 : Int32))), .val (.ref b2), .unset] [(.int (6 : Int32)), (.ref b24), (.ref b24)])) _
    refine XS.iconst X30.here hx rfl (hb hby at_88) ?_
    show Steps p.tables e below (T30.setTop (mkF m 89 #[.val (.int p1), .val (.int ((p1 &&& (2147483647 : Int32)) % (7 : Int32))), .val (.ref b2), .unset] [(.int (1 : Int32)), (.int (6 : Int32)), (.ref b24), (.ref b24)])) _
    refine st31 _ ?_
    show Steps p.tables e below (T31.setTop (mkF m 90 #[.val (.int p1), .val (.int ((p1 &&& (2147483647 : Int32)) % (7 : Int32))), .val (.ref b2), .unset] [(.ref b24)])) _
    refine XS.astoreN X31.here hx rfl (hb hby at_90) rfl rfl (l' := #[.val (.int p1), .val (.int ((p1 &&& (2147483647 : Int32)) % (7 : Int32))), .val (.ref b2), .val (.ref b24)]) rfl ?_
    show Steps p.tables e below (T31.setTop (mkF m 91 #[.val (.int p1), .val (.int ((p1 &&& (2147483647 : Int32)) % (7 : Int32))), .val (.ref b2), .val (.ref b24)] [])) _
    refine XS.aloadN X31.here hx rfl (hb hby at_91) rfl rfl ?_
    show Steps p.tables e below (T31.setTop (mkF m 92 #[.val (.int p1), .val (.int ((p1 &&& (2147483647 : Int32)) % (7 : Int32))), .val (.ref b2), .val (.ref b24)] [(.ref b2)])) _
    refine XS.iloadN X31.here hx rfl (hb hby at_92) rfl ?_
    show Steps p.tables e below (T31.setTop (mkF m 93 #[.val (.int p1), .val (.int ((p1 &&& (2147483647 : Int32)) % (7 : Int32))), .val (.ref b2), .val (.ref b24)] [(.int ((p1 &&& (2147483647 : Int32)) % (7 : Int32))), (.ref b2)])) _
    refine X31.aaload hx (j := ((p1 &&& (2147483647 : Int32)) % (7 : Int32))) (v := (.ref w32)) (by rw [e31]; exact Ar_b2.1) (State.isArrayOf_alike hZ.alike Ar_b2.2.1) rfl Ar_b2.2.2 hin93 hat93 (g := (mkF m 93 #[.val (.int p1), .val (.int ((p1 &&& (2147483647 : Int32)) % (7 : Int32))), .val (.ref b2), .val (.ref b24)] [(.int ((p1 &&& (2147483647 : Int32)) % (7 : Int32))), (.ref b2)])) rfl rfl (hb hby at_93) _ ?_
    show Steps p.tables e below (T31.setTop (mkF m 94 #[.val (.int p1), .val (.int ((p1 &&& (2147483647 : Int32)) % (7 : Int32))), .val (.ref b2), .val (.ref b24)] [(.ref w32)])) _
    refine st33.trans ?_
    show Steps p.tables e below (T33.setTop (mkF m 97 #[.val (.int p1), .val (.int ((p1 &&& (2147483647 : Int32)) % (7 : Int32))), .val (.ref b2), .val (.ref b24)] [(.int w34)])) _
    refine XS.aloadN X33.here hx rfl (hb hby at_97) rfl rfl ?_
    show Steps p.tables e below (T33.setTop (mkF m 98 #[.val (.int p1), .val (.int ((p1 &&& (2147483647 : Int32)) % (7 : Int32))), .val (.ref b2), .val (.ref b24)] [(.ref b24), (.int w34)])) _
    refine XS.iloadN X33.here hx rfl (hb hby at_98) rfl ?_
    show Steps p.tables e below (T33.setTop (mkF m 99 #[.val (.int p1), .val (.int ((p1 &&& (2147483647 : Int32)) % (7 : Int32))), .val (.ref b2), .val (.ref b24)] [(.int ((p1 &&& (2147483647 : Int32)) % (7 : Int32))), (.ref b24), (.int w34)])) _
    refine X33.baloadBooleans hx (j := ((p1 &&& (2147483647 : Int32)) % (7 : Int32))) (v := (.int w34)) (by rw [e33q]; exact Ar_b24.1) (State.isArrayOf_alike hZ.alike Ar_b24.2.1) Ar_b24.2.2 hin99 hat99 (g := (mkF m 99 #[.val (.int p1), .val (.int ((p1 &&& (2147483647 : Int32)) % (7 : Int32))), .val (.ref b2), .val (.ref b24)] [(.int ((p1 &&& (2147483647 : Int32)) % (7 : Int32))), (.ref b24), (.int w34)])) rfl rfl (hb hby at_99) _ ?_
    show Steps p.tables e below (T33.setTop (mkF m 100 #[.val (.int p1), .val (.int ((p1 &&& (2147483647 : Int32)) % (7 : Int32))), .val (.ref b2), .val (.ref b24)] [(.int w34), (.int w34)])) _
    refine XS.icmpNo X33.here hx rfl (hb hby at_100) rfl (teq (rfl : w34 = w34)).2 ?_
    show Steps p.tables e below (T33.setTop (mkF m 103 #[.val (.int p1), .val (.int ((p1 &&& (2147483647 : Int32)) % (7 : Int32))), .val (.ref b2), .val (.ref b24)] [])) _
    refine XS.iconst X33.here hx rfl (hb hby at_103) ?_
    show Steps p.tables e below (T33.setTop (mkF m 104 #[.val (.int p1), .val (.int ((p1 &&& (2147483647 : Int32)) % (7 : Int32))), .val (.ref b2), .val (.ref b24)] [(.int (1 : Int32))])) _
    refine XS.goto X33.here hx rfl (pc0 := 104) (pc' := 108) rfl (hb hby at_104) (by decide) (by decide) ?_
    show Steps p.tables e below (T33.setTop (mkF m 108 #[.val (.int p1), .val (.int ((p1 &&& (2147483647 : Int32)) % (7 : Int32))), .val (.ref b2), .val (.ref b24)] [(.int (1 : Int32))])) _
    exact retN X33 hx (t := .boolean) Bd.returns (by simp) (hb hby at_108) hr
  · show LQ n0 _ T33.heap _
    exact ⟨rfl, N33⟩
set_option maxRecDepth 65536 in
set_option maxHeartbeats 40000000 in
theorem comes_1 {Post : Tables → Env → Array Value → State → Outcome → State → Prop} (hpost : ∀ tb e args s v u, (limb_1_1.after args s (.returned v) u = true ∧ limb_1_2.after args s (.returned v) u = true ∧ True) → FrameEnd s (.returned v) u (Jvm.fieldLocs frame_1_writes args s ++ Jvm.arrayLocs frame_1_arrays args s ++ Jvm.staticLocs frame_1_statics s) 16 128 → Post tb e args s (.returned v) u) :
    ArmFor flags0 classFile x code maxLocals ret World_1 tables_1 room_1 Calls_1 rest_1 Pre_1 Post := by
  intro l hfl _ _ p e ha hc hk s m args below hf hA hF happ hP
  obtain ⟨hcalls, hrest, hpre⟩ := hP
  obtain ⟨-, -, -, hnamed, -, -, -, hat⟩ := (Spec.applies_iff hf).mp happ
  obtain ⟨hg, hn⟩ := and_e (Cond.before_iff.mp (show (Jvm.Cond.and given_1 narrow_1).before args s = true from hpre))
  obtain ⟨g35, g36⟩ := and_e hg
  obtain ⟨w0, rfl⟩ : ∃ w0 : Value, args = #[w0] := by
    have hs : args.size = 1 := by simpa [Cond.value, given_1] using g35
    obtain ⟨L⟩ := args
    match L, hs with
    | [w0], _ => exact ⟨w0, rfl⟩
  have hw := fun d (hd : d ∈ tables_1) => atoms_spec (ws := Jvm.Cond.code x code maxLocals ret :: tables_1) hat d (List.mem_cons_of_mem _ hd)
  have hfit : Fit s := fun {y c} hc i hi => by
    obtain ⟨ha, rfl⟩ := Array.getElem?_eq_some_iff.mp hc
    have q := List.all_eq_true.mp ((Array.all_eq_true_iff_forall_mem.mp hF) _ (Array.getElem_mem ha)) i (List.mem_range.mpr hi)
    simpa [Array.getElem?_eq_getElem hi] using q
  obtain ⟨i0, ei0⟩ := is_v g36
  obtain rfl : w0 = (.int i0) := Option.some.inj ei0
  obtain ⟨nw0, nr0⟩ := and_e hn
  obtain ⟨nw1, nr1⟩ := and_e nr0
  obtain ⟨nw2, nr2⟩ := and_e nr1
  obtain ⟨nw3, nr3⟩ := and_e nr2
  obtain ⟨nw4, nr4⟩ := and_e nr3
  obtain ⟨nw5, nr5⟩ := and_e nr4
  obtain ⟨nw6, nr6⟩ := and_e nr5
  obtain ⟨nw7, nr7⟩ := and_e nr6
  obtain ⟨nw8, nr8⟩ := and_e nr7
  obtain ⟨nw9, nr9⟩ := and_e nr8
  obtain ⟨nw10, nr10⟩ := and_e nr9
  obtain ⟨nw11, nr11⟩ := and_e nr10
  obtain ⟨nw12, nr12⟩ := and_e nr11
  have nw13 := nr12
  obtain ⟨a_SILENTLY_CONTINUE, e_SILENTLY_CONTINUE, S_SILENTLY_CONTINUE, E_SILENTLY_CONTINUE⟩ := own_sta nw0 (hw _ (List.mem_of_getElem? (i := 4) rfl)) (hw _ (List.mem_of_getElem? (i := 5) rfl))
  obtain ⟨a_STOP, e_STOP, S_STOP, E_STOP⟩ := own_sta nw1 (hw _ (List.mem_of_getElem? (i := 4) rfl)) (hw _ (List.mem_of_getElem? (i := 8) rfl))
  obtain ⟨a_CONTINUE, e_CONTINUE, S_CONTINUE, E_CONTINUE⟩ := own_sta nw2 (hw _ (List.mem_of_getElem? (i := 4) rfl)) (hw _ (List.mem_of_getElem? (i := 10) rfl))
  obtain ⟨a_INQUIRE, e_INQUIRE, S_INQUIRE, E_INQUIRE⟩ := own_sta nw3 (hw _ (List.mem_of_getElem? (i := 4) rfl)) (hw _ (List.mem_of_getElem? (i := 12) rfl))
  obtain ⟨a_IGNORE, e_IGNORE, S_IGNORE, E_IGNORE⟩ := own_sta nw4 (hw _ (List.mem_of_getElem? (i := 4) rfl)) (hw _ (List.mem_of_getElem? (i := 14) rfl))
  obtain ⟨a_SUSPEND, e_SUSPEND, S_SUSPEND, E_SUSPEND⟩ := own_sta nw5 (hw _ (List.mem_of_getElem? (i := 4) rfl)) (hw _ (List.mem_of_getElem? (i := 16) rfl))
  obtain ⟨a_BREAK, e_BREAK, S_BREAK, E_BREAK⟩ := own_sta nw6 (hw _ (List.mem_of_getElem? (i := 4) rfl)) (hw _ (List.mem_of_getElem? (i := 18) rfl))
  have O_INQUIRE := own_int e_INQUIRE nw7
  have O_SILENTLY_CONTINUE := own_int e_SILENTLY_CONTINUE nw8
  have O_IGNORE := own_int e_IGNORE nw9
  have O_SUSPEND := own_int e_SUSPEND nw10
  have O_BREAK := own_int e_BREAK nw11
  have O_CONTINUE := own_int e_CONTINUE nw12
  have O_STOP := own_int e_STOP nw13
  have M : OL l tables_1 #[.int i0] s s.heap s.heap.size := by
    rcases own_i7 i0 with c | c | c | c | c | c | c
    · exact rm0 l s _ hw tables_1 i0 a_SILENTLY_CONTINUE a_STOP a_CONTINUE a_INQUIRE a_IGNORE a_SUSPEND a_BREAK a_SILENTLY_CONTINUE (0 : Int32) s.heap s.heap.size (Nat.le_refl _) S_SILENTLY_CONTINUE S_STOP S_CONTINUE S_INQUIRE S_IGNORE S_SUSPEND S_BREAK E_SILENTLY_CONTINUE E_SILENTLY_CONTINUE E_STOP E_CONTINUE E_INQUIRE E_IGNORE E_SUSPEND E_BREAK (by rw [c]; decide) (by rw [c]; decide) (by rw [c]; rfl) (by rw [c]; rfl) (fun h K => rm1_t l s _ hw [] a_SILENTLY_CONTINUE a_SILENTLY_CONTINUE h s.heap.size K.1 (own_staK S_SILENTLY_CONTINUE K) rfl)
    · exact rm0 l s _ hw tables_1 i0 a_SILENTLY_CONTINUE a_STOP a_CONTINUE a_INQUIRE a_IGNORE a_SUSPEND a_BREAK a_STOP (1 : Int32) s.heap s.heap.size (Nat.le_refl _) S_SILENTLY_CONTINUE S_STOP S_CONTINUE S_INQUIRE S_IGNORE S_SUSPEND S_BREAK E_STOP E_SILENTLY_CONTINUE E_STOP E_CONTINUE E_INQUIRE E_IGNORE E_SUSPEND E_BREAK (by rw [c]; decide) (by rw [c]; decide) (by rw [c]; rfl) (by rw [c]; rfl) (fun h K => rm1_ff l s _ hw [] a_STOP a_SILENTLY_CONTINUE a_IGNORE h s.heap.size K.1 (own_staK S_SILENTLY_CONTINUE K) (own_staK S_IGNORE K) (own_ne O_STOP O_SILENTLY_CONTINUE (by decide)) (own_ne O_STOP O_IGNORE (by decide)))
    · exact rm0 l s _ hw tables_1 i0 a_SILENTLY_CONTINUE a_STOP a_CONTINUE a_INQUIRE a_IGNORE a_SUSPEND a_BREAK a_CONTINUE (1 : Int32) s.heap s.heap.size (Nat.le_refl _) S_SILENTLY_CONTINUE S_STOP S_CONTINUE S_INQUIRE S_IGNORE S_SUSPEND S_BREAK E_CONTINUE E_SILENTLY_CONTINUE E_STOP E_CONTINUE E_INQUIRE E_IGNORE E_SUSPEND E_BREAK (by rw [c]; decide) (by rw [c]; decide) (by rw [c]; rfl) (by rw [c]; rfl) (fun h K => rm1_ff l s _ hw [] a_CONTINUE a_SILENTLY_CONTINUE a_IGNORE h s.heap.size K.1 (own_staK S_SILENTLY_CONTINUE K) (own_staK S_IGNORE K) (own_ne O_CONTINUE O_SILENTLY_CONTINUE (by decide)) (own_ne O_CONTINUE O_IGNORE (by decide)))
    · exact rm0 l s _ hw tables_1 i0 a_SILENTLY_CONTINUE a_STOP a_CONTINUE a_INQUIRE a_IGNORE a_SUSPEND a_BREAK a_INQUIRE (1 : Int32) s.heap s.heap.size (Nat.le_refl _) S_SILENTLY_CONTINUE S_STOP S_CONTINUE S_INQUIRE S_IGNORE S_SUSPEND S_BREAK E_INQUIRE E_SILENTLY_CONTINUE E_STOP E_CONTINUE E_INQUIRE E_IGNORE E_SUSPEND E_BREAK (by rw [c]; decide) (by rw [c]; decide) (by rw [c]; rfl) (by rw [c]; rfl) (fun h K => rm1_ff l s _ hw [] a_INQUIRE a_SILENTLY_CONTINUE a_IGNORE h s.heap.size K.1 (own_staK S_SILENTLY_CONTINUE K) (own_staK S_IGNORE K) (own_ne O_INQUIRE O_SILENTLY_CONTINUE (by decide)) (own_ne O_INQUIRE O_IGNORE (by decide)))
    · exact rm0 l s _ hw tables_1 i0 a_SILENTLY_CONTINUE a_STOP a_CONTINUE a_INQUIRE a_IGNORE a_SUSPEND a_BREAK a_IGNORE (0 : Int32) s.heap s.heap.size (Nat.le_refl _) S_SILENTLY_CONTINUE S_STOP S_CONTINUE S_INQUIRE S_IGNORE S_SUSPEND S_BREAK E_IGNORE E_SILENTLY_CONTINUE E_STOP E_CONTINUE E_INQUIRE E_IGNORE E_SUSPEND E_BREAK (by rw [c]; decide) (by rw [c]; decide) (by rw [c]; rfl) (by rw [c]; rfl) (fun h K => rm1_ft l s _ hw [] a_IGNORE a_SILENTLY_CONTINUE a_IGNORE h s.heap.size K.1 (own_staK S_SILENTLY_CONTINUE K) (own_staK S_IGNORE K) (own_ne O_IGNORE O_SILENTLY_CONTINUE (by decide)) rfl)
    · exact rm0 l s _ hw tables_1 i0 a_SILENTLY_CONTINUE a_STOP a_CONTINUE a_INQUIRE a_IGNORE a_SUSPEND a_BREAK a_SUSPEND (1 : Int32) s.heap s.heap.size (Nat.le_refl _) S_SILENTLY_CONTINUE S_STOP S_CONTINUE S_INQUIRE S_IGNORE S_SUSPEND S_BREAK E_SUSPEND E_SILENTLY_CONTINUE E_STOP E_CONTINUE E_INQUIRE E_IGNORE E_SUSPEND E_BREAK (by rw [c]; decide) (by rw [c]; decide) (by rw [c]; rfl) (by rw [c]; rfl) (fun h K => rm1_ff l s _ hw [] a_SUSPEND a_SILENTLY_CONTINUE a_IGNORE h s.heap.size K.1 (own_staK S_SILENTLY_CONTINUE K) (own_staK S_IGNORE K) (own_ne O_SUSPEND O_SILENTLY_CONTINUE (by decide)) (own_ne O_SUSPEND O_IGNORE (by decide)))
    · exact rm0 l s _ hw tables_1 i0 a_SILENTLY_CONTINUE a_STOP a_CONTINUE a_INQUIRE a_IGNORE a_SUSPEND a_BREAK a_BREAK (1 : Int32) s.heap s.heap.size (Nat.le_refl _) S_SILENTLY_CONTINUE S_STOP S_CONTINUE S_INQUIRE S_IGNORE S_SUSPEND S_BREAK E_BREAK E_SILENTLY_CONTINUE E_STOP E_CONTINUE E_INQUIRE E_IGNORE E_SUSPEND E_BREAK (by rw [c]; decide) (by rw [c]; decide) (by rw [c]; rfl) (by rw [c]; rfl) (fun h K => rm1_ff l s _ hw [] a_BREAK a_SILENTLY_CONTINUE a_IGNORE h s.heap.size K.1 (own_staK S_SILENTLY_CONTINUE K) (own_staK S_IGNORE K) (own_ne O_BREAK O_SILENTLY_CONTINUE (by decide)) (own_ne O_BREAK O_IGNORE (by decide)))
  obtain ⟨n, o, h1, h2, h3, _, L, rfl, ⟨rfl, N⟩, hq⟩ := M p e ha hc hk s m _ below hf ((Spec.applies_iff_loose hf).mp happ).1 ⟨rfl, State.Warmed39.refl s, rfl⟩ trivial
  refine ⟨n, _, h1, h2, h3, hpost _ _ _ _ _ _ ⟨Cond.after_iff.mpr rfl, Cond.after_iff.mpr (eq_i res_at (Term.int_eval (1)) rfl), trivial⟩ ⟨hq.1, hq.2.1, (hq.2.2.sift fun y hy => Or.inr (N y hy)).mono (by decide) (by decide)⟩⟩
theorem main_1_1 : Claimed_1_1 := comes_1 fun _ _ _ _ _ _ h hF => ⟨h.1, hF⟩
theorem main_1_2 : Claimed_1_2 := comes_1 fun _ _ _ _ _ _ h hF => ⟨h.2.1, hF⟩
end Jvm.Pilot.@@N@@
namespace Jvm.Pilot.@@N@@
open Jvm Jvm.ClassFile Sem Op Lib Jvm.Free Jvm.Stand Jvm.Pilot.@@N@@.Jvm.D
/-! MADE BY PROGRAM (witnessworld.py) out of the Statement's table words and the real class files: 13 classes; the members and pool entries that the words name. The judged class is class 1, her method 1. -/
namespace start1
open Jvm.ClassFile
def u (s : String) : CpInfo := .utf8 (stringToUtf16 s)
/-- a pool by its gaps: so many unusable entries, then the entry; so many at the end -/
def gap : Nat → List CpInfo → List CpInfo
  | 0, r => r
  | n + 1, r => .unusable :: gap n r
def poolList (es : List (Nat × CpInfo)) (last : Nat) : List CpInfo := es.foldr (fun e r => gap e.1 (e.2 :: r)) (gap last [])
def pool (es : List (Nat × CpInfo)) (last : Nat) : Array CpInfo := ⟨poolList es last⟩
def fileOf (pool : Array CpInfo) (this : Nat) (attrs : Array Attribute := #[]) (ms : Array MethodInfo := #[]) (fl : Nat := 33) (sup : Nat := 0) (ifs : Array Nat := #[]) (fds : Array FieldInfo := #[]) : ClassFile where
  minorVersion := 0
  majorVersion := 65
  constantPool := pool
  accessFlags := fl
  thisClass := this
  superClass := sup
  interfaces := ifs
  fields := fds
  methods := ms
  attributes := attrs
def plain (name : String) (sup : Option ClassId) : Class where
  name := name
  kind := .ordinary
  loader := none
  accessFlags := 33
  super := sup
  interfaces := #[]
  cf := none
  fields := #[]
  methods := #[]
  instanceTypes := #[]
  staticTypes := #[]
  resolved := #[]
  callSites := []
  init := .initialized
  statics := none
  mirror := none

def pool0 : Array CpInfo := pool [(5, u "<init>"), (0, u "()V"), (1, .class_ 10), (1, u "java/lang/Object")] 113

def k0m0 : Method := { name := "<init>", desc := "()V", sig := { parameters := [], returnType := none }, accessFlags := 1, code := none }
/-- java/lang/Object -/
def k0 : Class := { plain "java/lang/Object" none with
  accessFlags := 33
  interfaces := #[]
  cf := some (fileOf pool0 8 #[] #[{ accessFlags := 1, nameIndex := 5, descriptorIndex := 6, attributes := #[] }] 33 0 #[] #[])
  fields := #[]
  methods := #[k0m0]
  instanceTypes := #[]
  staticTypes := #[]
  resolved := Array.replicate 124 none
  statics := none }

def pool1 : Array CpInfo := pool [(2, .class_ 4), (1, u "java/lang/Object"), (0, u "<init>"), (0, u "()V"), (0, .integer 2147483647), (0, .class_ 9), (0, u "com/example/lambdash/lambdash/engine/ActionPreference"), (0, .fieldref 8 11), (0, .nameAndType 12 13), (0, u "SILENTLY_CONTINUE"), (0, u "Lcom/example/lambdash/lambdash/engine/ActionPreference;"), (0, .fieldref 8 15), (0, .nameAndType 16 13), (0, u "STOP"), (0, .fieldref 8 18), (0, .nameAndType 19 13), (0, u "CONTINUE"), (0, .fieldref 8 21), (0, .nameAndType 22 13), (0, u "INQUIRE"), (0, .fieldref 8 24), (0, .nameAndType 25 13), (0, u "IGNORE"), (0, .fieldref 8 27), (0, .nameAndType 28 13), (0, u "SUSPEND"), (0, .fieldref 8 30), (0, .nameAndType 31 13), (0, u "BREAK"), (0, .methodref 8 33), (0, .nameAndType 34 35), (0, u "shows"), (0, u "()Z"), (0, .class_ 37), (0, u "com/example/lambdash/lambdash/engine/ActionPreferenceShowsPinLaw"), (2, u "law"), (0, u "(I)Z")] 7

def k1m0 : Method := { name := "<init>", desc := "()V", sig := { parameters := [], returnType := none }, accessFlags := 2, code := none }
def k1c1 : Code := { maxStack := 4, maxLocals := 4, code := code, exceptionTable := #[], attributes := #[] }
def k1m1 : Method := { name := "law", desc := "(I)Z", sig := { parameters := [.int], returnType := some .boolean }, accessFlags := 9, code := some k1c1 }
/-- com/example/lambdash/lambdash/engine/ActionPreferenceShowsPinLaw -/
def k1 : Class := { plain "com/example/lambdash/lambdash/engine/ActionPreferenceShowsPinLaw" (some 0) with
  accessFlags := 49
  interfaces := #[]
  cf := some (fileOf pool1 36 #[] #[{ accessFlags := 2, nameIndex := 5, descriptorIndex := 6, attributes := #[] }, { accessFlags := 9, nameIndex := 40, descriptorIndex := 41, attributes := #[] }] 49 2 #[] #[])
  fields := #[]
  methods := #[k1m0, k1m1]
  instanceTypes := #[]
  staticTypes := #[]
  resolved := Array.replicate 49 none
  statics := none }

def pool2 : Array CpInfo := pool [(1, .class_ 2), (0, u "java/lang/constant/Constable"), (0, .class_ 4), (0, u "java/lang/Object")] 6

/-- java/lang/constant/Constable -/
def k2 : Class := { plain "java/lang/constant/Constable" (some 0) with
  accessFlags := 1537
  interfaces := #[]
  cf := some (fileOf pool2 1 #[] #[] 1537 3 #[] #[])
  fields := #[]
  methods := #[]
  instanceTypes := #[]
  staticTypes := #[]
  resolved := Array.replicate 11 none
  statics := none }

def pool3 : Array CpInfo := pool [(1, .class_ 2), (0, u "java/lang/Comparable"), (0, .class_ 4), (0, u "java/lang/Object")] 7

/-- java/lang/Comparable -/
def k3 : Class := { plain "java/lang/Comparable" (some 0) with
  accessFlags := 1537
  interfaces := #[]
  cf := some (fileOf pool3 1 #[] #[] 1537 3 #[] #[])
  fields := #[]
  methods := #[]
  instanceTypes := #[]
  staticTypes := #[]
  resolved := Array.replicate 12 none
  statics := none }

def pool4 : Array CpInfo := pool [(1, .class_ 2), (0, u "java/io/Serializable"), (0, .class_ 4), (0, u "java/lang/Object")] 2

/-- java/io/Serializable -/
def k4 : Class := { plain "java/io/Serializable" (some 0) with
  accessFlags := 1537
  interfaces := #[]
  cf := some (fileOf pool4 1 #[] #[] 1537 3 #[] #[])
  fields := #[]
  methods := #[]
  instanceTypes := #[]
  staticTypes := #[]
  resolved := Array.replicate 7 none
  statics := none }

def pool5 : Array CpInfo := pool [(2, .class_ 4), (1, u "java/lang/Enum"), (0, u "name"), (0, u "Ljava/lang/String;"), (2, u "ordinal"), (0, u "I"), (1, .class_ 14), (1, u "java/lang/Object"), (4, u "hash"), (86, .class_ 108), (1, u "java/lang/Enum$EnumDesc"), (2, .class_ 112), (0, u "java/lang/constant/Constable"), (0, .class_ 114), (0, u "java/lang/Comparable"), (0, .class_ 116), (0, u "java/io/Serializable")] 87

/-- java/lang/Enum -/
def k5 : Class := { plain "java/lang/Enum" (some 0) with
  accessFlags := 1057
  interfaces := #[2, 3, 4]
  cf := some (fileOf pool5 2 #[.nestMembers #[106]] #[] 1057 12 #[111, 113, 115] #[{ accessFlags := 18, nameIndex := 5, descriptorIndex := 6, attributes := #[] }, { accessFlags := 18, nameIndex := 9, descriptorIndex := 10, attributes := #[] }, { accessFlags := 2, nameIndex := 19, descriptorIndex := 10, attributes := #[] }])
  fields := #[{ name := "name", type := (.object "java/lang/String"), accessFlags := 18, slot := 0, constantValue := 0 }, { name := "ordinal", type := .int, accessFlags := 18, slot := 1, constantValue := 0 }, { name := "hash", type := .int, accessFlags := 2, slot := 2, constantValue := 0 }]
  methods := #[]
  instanceTypes := #[(.object "java/lang/String"), .int, .int]
  staticTypes := #[]
  resolved := Array.replicate 204 none
  statics := none }

def pool6 : Array CpInfo := pool [(1, .class_ 2), (0, u "com/example/lambdash/lambdash/engine/ActionPreference"), (0, .fieldref 1 4), (0, .nameAndType 5 6), (0, u "SILENTLY_CONTINUE"), (0, u "Lcom/example/lambdash/lambdash/engine/ActionPreference;"), (2, u "STOP"), (2, u "CONTINUE"), (2, u "INQUIRE"), (0, .fieldref 1 17), (0, .nameAndType 18 6), (0, u "IGNORE"), (2, u "SUSPEND"), (2, u "BREAK"), (2, u "$VALUES"), (0, u "[Lcom/example/lambdash/lambdash/engine/ActionPreference;"), (6, .class_ 37), (1, u "java/lang/Enum"), (8, u "scriptName"), (0, u "Ljava/lang/String;"), (15, u "TYPE"), (0, u "Lcom/example/lambdash/lambdash/engine/EnumType;"), (71, u "shows"), (0, u "()Z")] 4

def k6c0 : Code := { maxStack := 2, maxLocals := 1, code := prog_10_method_7_code, exceptionTable := #[], attributes := #[] }
def k6m0 : Method := { name := "shows", desc := "()Z", sig := { parameters := [], returnType := some .boolean }, accessFlags := 0, code := some k6c0 }
/-- com/example/lambdash/lambdash/engine/ActionPreference -/
def k6 : Class := { plain "com/example/lambdash/lambdash/engine/ActionPreference" (some 5) with
  accessFlags := 16433
  interfaces := #[]
  cf := some (fileOf pool6 1 #[] #[{ accessFlags := 0, nameIndex := 136, descriptorIndex := 137, attributes := #[] }] 16433 35 #[] #[{ accessFlags := 16409, nameIndex := 5, descriptorIndex := 6, attributes := #[] }, { accessFlags := 16409, nameIndex := 9, descriptorIndex := 6, attributes := #[] }, { accessFlags := 16409, nameIndex := 12, descriptorIndex := 6, attributes := #[] }, { accessFlags := 16409, nameIndex := 15, descriptorIndex := 6, attributes := #[] }, { accessFlags := 16409, nameIndex := 18, descriptorIndex := 6, attributes := #[] }, { accessFlags := 16409, nameIndex := 21, descriptorIndex := 6, attributes := #[] }, { accessFlags := 16409, nameIndex := 24, descriptorIndex := 6, attributes := #[] }, { accessFlags := 24, nameIndex := 63, descriptorIndex := 64, attributes := #[] }, { accessFlags := 18, nameIndex := 46, descriptorIndex := 47, attributes := #[] }, { accessFlags := 4122, nameIndex := 27, descriptorIndex := 28, attributes := #[] }])
  fields := #[{ name := "SILENTLY_CONTINUE", type := (.object "com/example/lambdash/lambdash/engine/ActionPreference"), accessFlags := 16409, slot := 0, constantValue := 0 }, { name := "STOP", type := (.object "com/example/lambdash/lambdash/engine/ActionPreference"), accessFlags := 16409, slot := 1, constantValue := 0 }, { name := "CONTINUE", type := (.object "com/example/lambdash/lambdash/engine/ActionPreference"), accessFlags := 16409, slot := 2, constantValue := 0 }, { name := "INQUIRE", type := (.object "com/example/lambdash/lambdash/engine/ActionPreference"), accessFlags := 16409, slot := 3, constantValue := 0 }, { name := "IGNORE", type := (.object "com/example/lambdash/lambdash/engine/ActionPreference"), accessFlags := 16409, slot := 4, constantValue := 0 }, { name := "SUSPEND", type := (.object "com/example/lambdash/lambdash/engine/ActionPreference"), accessFlags := 16409, slot := 5, constantValue := 0 }, { name := "BREAK", type := (.object "com/example/lambdash/lambdash/engine/ActionPreference"), accessFlags := 16409, slot := 6, constantValue := 0 }, { name := "TYPE", type := (.object "com/example/lambdash/lambdash/engine/EnumType"), accessFlags := 24, slot := 7, constantValue := 0 }, { name := "scriptName", type := (.object "java/lang/String"), accessFlags := 18, slot := 3, constantValue := 0 }, { name := "$VALUES", type := (.array (.object "com/example/lambdash/lambdash/engine/ActionPreference")), accessFlags := 4122, slot := 8, constantValue := 0 }]
  methods := #[k6m0]
  instanceTypes := #[(.object "java/lang/String"), .int, .int, (.object "java/lang/String")]
  staticTypes := #[(.object "com/example/lambdash/lambdash/engine/ActionPreference"), (.object "com/example/lambdash/lambdash/engine/ActionPreference"), (.object "com/example/lambdash/lambdash/engine/ActionPreference"), (.object "com/example/lambdash/lambdash/engine/ActionPreference"), (.object "com/example/lambdash/lambdash/engine/ActionPreference"), (.object "com/example/lambdash/lambdash/engine/ActionPreference"), (.object "com/example/lambdash/lambdash/engine/ActionPreference"), (.object "com/example/lambdash/lambdash/engine/EnumType"), (.array (.object "com/example/lambdash/lambdash/engine/ActionPreference"))]
  resolved := Array.replicate 142 none
  statics := some 0 }

def pool7 : Array CpInfo := pool [(1, u "java/lang/Cloneable"), (0, .class_ 1), (0, u "java/lang/Object"), (0, .class_ 3)] 3

/-- java/lang/Cloneable -/
def k7 : Class := { plain "java/lang/Cloneable" (some 0) with
  accessFlags := 1537
  interfaces := #[]
  cf := some (fileOf pool7 2 #[] #[] 1537 4 #[] #[])
  fields := #[]
  methods := #[]
  instanceTypes := #[]
  staticTypes := #[]
  resolved := Array.replicate 8 none
  statics := none }

/-- the primitive boolean -/
def k8 : Class := { plain "boolean" none with kind := .primitive 'Z', accessFlags := 0x411 }
/-- [Z -/
def k9 : Class := { plain "[Z" (some 0) with kind := .array 8 .boolean, interfaces := #[7, 4], accessFlags := 1041 }

/-- the primitive byte -/
def k10 : Class := { plain "byte" none with kind := .primitive 'B', accessFlags := 0x411 }
/-- [B -/
def k11 : Class := { plain "[B" (some 0) with kind := .array 10 .byte, interfaces := #[7, 4], accessFlags := 1041 }

/-- [Lcom/example/lambdash/lambdash/engine/ActionPreference; -/
def k12 : Class := { plain "[Lcom/example/lambdash/lambdash/engine/ActionPreference;" (some 0) with kind := .array 6 (.object "com/example/lambdash/lambdash/engine/ActionPreference"), interfaces := #[7, 4], accessFlags := 1041 }

def heap : Heap := #[{ cls := 6, slots := #[.ref 1, .ref 2, .ref 3, .ref 4, .ref 5, .ref 6, .ref 7, .null, .null], vm := .statics 6 },
  { cls := 6, slots := #[.null, .int 0, .int 0, .null], vm := .none },
  { cls := 6, slots := #[.null, .int 1, .int 0, .null], vm := .none },
  { cls := 6, slots := #[.null, .int 2, .int 0, .null], vm := .none },
  { cls := 6, slots := #[.null, .int 3, .int 0, .null], vm := .none },
  { cls := 6, slots := #[.null, .int 4, .int 0, .null], vm := .none },
  { cls := 6, slots := #[.null, .int 5, .int 0, .null], vm := .none },
  { cls := 6, slots := #[.null, .int 6, .int 0, .null], vm := .none }]
def classes : Array Class := #[k0, k1, k2, k3, k4, k5, k6, k7, k8, k9, k10, k11, k12]
def interned : List (Array UInt16 × Addr) := []
def slotsUsed : Nat := 37
def theMethod : MethodId := ⟨1, 1⟩
def args0 : Array Value := #[.int 5]
def aboutOver (below : List Frame) : State where
  vm := { classes := classes, interned := interned.toArray }
  heap := heap
  slotsUsed := slotsUsed
  threads := #[{ frames := .invoking theMethod args0 :: below }]
def below0 : List Frame := [.native { method := ⟨0, 0⟩, args := #[] }]
def about1 : State := aboutOver below0
def p0 : Program := .bare "" "" ""
def e0 : Env := launch0.env 0 0 0
theorem w_frames : about1.frames = Frame.invoking theMethod args0 :: below0 := rfl
set_option maxRecDepth 65536 in
theorem w_args : argsFit about1.vm theMethod args0 = true := by decide +kernel
set_option maxRecDepth 65536 in
theorem w_heap : heapFits about1 = true := by decide +kernel
set_option maxRecDepth 65536 in
theorem w_runnable : about1.curStatus? = some .runnable := by decide +kernel
set_option maxRecDepth 65536 in
theorem w_alone : about1.alone = true := by decide +kernel
set_option maxRecDepth 65536 in
theorem w_named : about1.methodNamed? x = some theMethod := by decide +kernel
set_option maxRecDepth 65536 in
theorem w_hears : about1.hears theMethod below0 = true := by decide +kernel
set_option maxRecDepth 65536 in
theorem w_ripe : about1.ripe theMethod args0 below0 = true := by decide +kernel
theorem w_running : about1.status = .running := rfl
set_option maxRecDepth 65536 in
theorem w_room : about1.hasRoom e0.platform room_1 = true :=
  launch0.hasRoom_least _ room_1 (by decide +kernel) (by decide +kernel) (by decide +kernel) (by decide +kernel) (by decide +kernel) (by decide +kernel)
theorem allAtoms_all (ts : List Jvm.Cond) (a : Array Jvm.Value) (st : Jvm.State) : (allAtoms ts).before a st = ts.all (fun c => c.before a st) := by
  induction ts with
  | nil => rfl
  | cons c t ih =>
    show (Jvm.Cond.and c (allAtoms t)).before a st = _
    rw [Jvm.Cond.before_and, ih, List.all_cons]
def words1 : List Jvm.Cond := Jvm.Cond.code x code maxLocals ret :: tables_1
/-- a 'code' word, met by the world's own term for the bytes: nothing is compared byte by byte -/
theorem code_word {y : MethodName} {bytes : ByteArray} {mx : Nat} {rt : Option FieldType} {a : Array Value} {s : State} {m : MethodId} {meth : Method} {c : Code} (h1 : s.methodNamed? y = some m) (h2 : s.vm.method? m = some meth) (h3 : meth.code = some c) (h4 : c.code = bytes)
    (h5 : (c.maxLocals == mx && c.exceptionTable.isEmpty && decide (c.maxStack ≤ mostOperands) && decide (meth.sig.returnType = rt) && !meth.locks && decide (parseMethodDescriptor y.desc = some meth.sig)) = true) : (Jvm.Cond.code y bytes mx rt).before a s = true := by
  simp only [Bool.and_eq_true, beq_iff_eq, Bool.not_eq_true', decide_eq_true_eq] at h5
  obtain ⟨⟨⟨⟨⟨g1, g2⟩, g3⟩, g4⟩, g5⟩, g6⟩ := h5
  simp [Cond.before, Cond.holds, Cond.value, h1, h2, h3, h4, g1, g2, g3, g4, g5, g6]
def isCode : Jvm.Cond → Bool
  | .code _ _ _ _ => true
  | _ => false
theorem all_split {L : List Jvm.Cond} {P : Jvm.Cond → Bool} (h1 : L.all (fun c => isCode c || P c) = true) (h2 : ∀ c ∈ L.filter isCode, P c = true) : L.all P = true := by
  refine List.all_eq_true.mpr fun c hc => ?_
  have h := List.all_eq_true.mp h1 c hc
  rcases Bool.eq_false_or_eq_true (isCode c) with hi | hi
  · exact h2 c (List.mem_filter.mpr ⟨hc, hi⟩)
  · simpa [hi] using h
set_option maxRecDepth 65536 in
theorem w_c0 : (Jvm.Cond.code x code maxLocals ret).before args0 about1 = true := code_word (m := ⟨1, 1⟩) (meth := k1m1) (c := k1c1) (by decide +kernel) rfl rfl rfl (by decide +kernel)
set_option maxRecDepth 65536 in
theorem w_c1 : (Jvm.Cond.code ({ cls := "com/example/lambdash/lambdash/engine/ActionPreference", name := "shows", desc := "()Z" } : Jvm.MethodName) prog_10_method_7_code (1 : Nat) (Option.some Jvm.ClassFile.FieldType.boolean)).before args0 about1 = true := code_word (m := ⟨6, 0⟩) (meth := k6m0) (c := k6c0) (by decide +kernel) rfl rfl rfl (by decide +kernel)
def codes1 : List Jvm.Cond := [Jvm.Cond.code x code maxLocals ret, Jvm.Cond.code ({ cls := "com/example/lambdash/lambdash/engine/ActionPreference", name := "shows", desc := "()Z" } : Jvm.MethodName) prog_10_method_7_code (1 : Nat) (Option.some Jvm.ClassFile.FieldType.boolean)]
set_option maxRecDepth 65536 in
theorem codes_eq : words1.filter isCode = codes1 := rfl
theorem w_codes : ∀ c ∈ words1.filter isCode, c.before args0 about1 = true := by
  rw [codes_eq]
  intro c hc
  simp only [codes1, List.mem_cons, List.not_mem_nil, or_false] at hc
  rcases hc with rfl | rfl
  · exact w_c0
  · exact w_c1
set_option maxRecDepth 65536 in
theorem w_t1 : (words1.take 24).all (fun c => isCode c || c.before args0 about1) = true := by decide +kernel
set_option maxRecDepth 65536 in
theorem w_t2 : (words1.drop 24).all (fun c => isCode c || c.before args0 about1) = true := by decide +kernel
theorem w_tables : (allAtoms (Jvm.Cond.code x code maxLocals ret :: tables_1)).before args0 about1 = true := by
  rw [allAtoms_all]
  show words1.all (fun c => c.before args0 about1) = true
  refine all_split ?_ w_codes
  rw [← List.take_append_drop 24 words1, List.all_append, w_t1, w_t2]
  rfl
set_option maxRecDepth 65536 in
theorem w_case : (Jvm.Cond.and given_1 narrow_1).before args0 about1 = true := by decide +kernel
theorem w_applies : (headSpec (Jvm.Cond.code x code maxLocals ret :: tables_1) room_1).applies x e0.platform about1 = true :=
  (Spec.applies_iff w_frames).mpr ⟨w_running, w_runnable, w_alone, w_named, w_hears, w_ripe, w_room, w_tables⟩
theorem atStart : AtStart classFile x code maxLocals ret World_1 tables_1 room_1 Calls_1 rest_1 Pre_1 launch0 p0 e0 about1 theMethod args0 below0 :=
  ⟨lists_1, trivial, launch0.admits_env _ _ _, launch0.least_env, fairChoices_fair.cas, fairChoices_fair.clock, w_frames, w_args, w_heap, w_applies, trivial, trivial, w_case⟩
end start1
theorem witness_1 : WitnessClaimed_1 := ⟨start1.p0, start1.e0, start1.about1, start1.theMethod, start1.args0, start1.below0, start1.atStart⟩
end Jvm.Pilot.@@N@@
