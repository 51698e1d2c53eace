import JvmDerived
import JvmDerived.Pilot.@@N@@Statement
import JvmDerived.Pilot.@@N@@Code
set_option linter.unusedVariables false
set_option linter.unusedSimpArgs false
namespace Jvm.RoadKit
open Sem ClassFile Op Lib Jvm.Stand Jvm.Free Jvm.LawKit
section New
variable {p : Program} {l : Launch} {e : Env} {R : Room} {s : State} {m : MethodId} {args : Array Value} {below : List Frame} {meth : Method} {c : Code} {T : State} {locs : List Loc} {cells slots : Nat}
theorem retI (X : Stand p l e R s m args below meth c T locs cells slots) (hx : p.tables.exec = Jvm.exec) {pc : Nat} {Ls : Array Slot} {z : Int32} {rest : List Value} (hret : meth.sig.returnType = some .int) (hd : decode c.code pc = .ok (.ireturn, 1)) {fs : List Frame}
    (hl : ∀ (f : JFrame) (acts : List Action), f.method = m → f.locked = none → f.entered = [] → (doReturn e (T.setTop f) acts (some (.int z))).1 = T.setFrames fs) : Steps p.tables e below (T.setTop (mkF m pc Ls (.int z :: rest))) (T.setFrames fs) := by
  have hm' : T.vm.method? m = some meth := X.method'
  have hn : narrow .int (.int z) = .int z := rfl
  show Steps p.tables e below (T.setTop { method := m, pc := pc, locals := Ls, stack := _ :: rest, locked := none }) _
  jvm_step X.here [X.here.top, hx, hd, hm', hret, hn]
  first | (intro acts; rw [hl _ acts rfl rfl rfl]) | rw [hl _ _ rfl rfl rfl]
  exact Steps.refl _
theorem own_retJ (X : Stand p l e R s m args below meth c T locs cells slots) (hx : p.tables.exec = Jvm.exec) {pc : Nat} {Ls : Array Slot} {z : Int64} {rest : List Value} (hret : meth.sig.returnType = some .long) (hd : decode c.code pc = .ok (.lreturn, 1)) {fs : List Frame}
    (hl : ∀ (f : JFrame) (acts : List Action), f.method = m → f.locked = none → f.entered = [] → (doReturn e (T.setTop f) acts (some (.long z))).1 = T.setFrames fs) : Steps p.tables e below (T.setTop (mkF m pc Ls (.long z :: rest))) (T.setFrames fs) := by
  have hm' : T.vm.method? m = some meth := X.method'
  show Steps p.tables e below (T.setTop { method := m, pc := pc, locals := Ls, stack := _ :: rest, locked := none }) _
  jvm_step X.here [X.here.top, hx, hd, hm', hret, narrow]
  first | (intro acts; rw [hl _ acts rfl rfl rfl]) | rw [hl _ _ rfl rfl rfl]
  exact Steps.refl _
theorem own_retR (X : Stand p l e R s m args below meth c T locs cells slots) (hx : p.tables.exec = Jvm.exec) {pc : Nat} {Ls : Array Slot} {z : Value} (hz : z.isRef = true) {rest : List Value} {t : FieldType} (hret : meth.sig.returnType = some t) (ht : t.isReference = true) (hd : decode c.code pc = .ok (.areturn, 1)) {fs : List Frame}
    (hl : ∀ (f : JFrame) (acts : List Action), f.method = m → f.locked = none → f.entered = [] → (doReturn e (T.setTop f) acts (some z)).1 = T.setFrames fs) : Steps p.tables e below (T.setTop (mkF m pc Ls (z :: rest))) (T.setFrames fs) := by
  have hm' : T.vm.method? m = some meth := X.method'
  show Steps p.tables e below (T.setTop { method := m, pc := pc, locals := Ls, stack := _ :: rest, locked := none }) _
  rcases ref_cases hz with rfl | ⟨a, rfl⟩ <;> cases t <;> first
    | (simp [FieldType.isReference] at ht; done)
    | (jvm_step X.here [X.here.top, hx, hd, hm', hret, Value.isRef, FieldType.isReference]
       first | (intro acts; rw [hl _ acts rfl rfl rfl]) | rw [hl _ _ rfl rfl rfl]
       exact Steps.refl _)
/-- the walk goes on: from this frame the body comes to an end at which P holds -/
def own_G (tb : Tables) (e : Env) (below : List Frame) (T : State) (f : JFrame) (P : State → Outcome → Prop) : Prop := ∃ s₂ o, Steps tb e below (T.setTop f) s₂ ∧ P s₂ o
def own_P (below : List Frame) (s : State) (Q : Option Value → Heap → List Loc → Prop) (ck kk : Nat) : State → Outcome → Prop := fun s₂ o => s₂.status = .running ∧ Ended s₂ below o ∧ ∃ v L, o = .returned v ∧ Q v s₂.heap L ∧ FrameEnd s o s₂ L ck kk
theorem own_go {tb : Tables} {e : Env} {below : List Frame} {T T' : State} {f f' : JFrame} {P : State → Outcome → Prop} (h : ∀ t, Steps tb e below (T'.setTop f') t → Steps tb e below (T.setTop f) t) (g : own_G tb e below T' f' P) : own_G tb e below T f P := by
  obtain ⟨a, o, h1, h2⟩ := g; exact ⟨a, o, h a h1, h2⟩
theorem own_end (X : Stand p l e R s m args below meth c T locs cells slots) (hlocks : meth.locks = false) {v : Option Value} (hv : meth.sig.returnType = none → v = none) {f : JFrame}
    (hret : ∀ fs, (∀ (f : JFrame) (acts : List Action), f.method = m → f.locked = none → f.entered = [] → (doReturn e (T.setTop f) acts v).1 = T.setFrames fs) → Steps p.tables e below (T.setTop f) (T.setFrames fs))
    {Q : Option Value → Heap → List Loc → Prop} {h : Heap} (eT : T.heap = h) (hQ : Q v h locs) {ck kk : Nat} (hc : cells ≤ ck) (hk : slots ≤ kk) : own_G p.tables e below T f (own_P below s Q ck kk) := by
  obtain ⟨fs, hr, hrun, hended, hW, hsame⟩ := X.leave (v := v) hv hlocks
  subst eT
  exact ⟨_, _, hret fs hr, hrun, hended, _, _, rfl, hQ, ⟨_, rfl⟩, hW, hsame.mono hc hk⟩
theorem own_top {tb : Tables} {e : Env} {below : List Frame} {T : State} {f f' : JFrame} {s : State} {Q : Option Value → Heap → List Loc → Prop} {ck kk : Nat} (ef : f = f') (g : own_G tb e below T f' (own_P below s Q ck kk)) :
    ∃ s₂ o, Steps tb e below (T.setTop f) s₂ ∧ s₂.status = .running ∧ Ended s₂ below o ∧ ∃ v L, o = .returned v ∧ Q v s₂.heap L ∧ FrameEnd s o s₂ L ck kk := by
  subst ef; exact g
theorem own_sk {Z : State} {h h' : Heap} {C n d : String} {v : Value} {ws : List Addr} (F : Sta Z h C n d v) (K : Keep h h' ws) (q : ∀ x ∈ ws, ∀ c : Cell, h[x]? = some c → c.vm.isStatics = false) : Sta Z h' C n d v := by
  obtain ⟨cf, i, k, f, st, cell, h1, h2, h3, h4, h5, h6, h7⟩ := F
  exact ⟨cf, i, k, f, st, cell, h1, h2, h3, h4, K.2.1 st cell h5 (fun hm => by have := q st hm cell h5; rw [h6] at this; cases this), h6, h7⟩
theorem own_ak {Z : State} {h h' : Heap} {a : Addr} {c : Cell} {ty : FieldType} (A : Arr Z h a c ty) (K : Keep h h' []) : Arr Z h' a c ty := ⟨K.2.1 a c A.1 List.not_mem_nil, A.2⟩
theorem own_akn {Z : State} {h h' : Heap} {a : Addr} {c : Cell} {ty : FieldType} {ws : List Addr} (A : Arr Z h a c ty) (K : Keep h h' ws) (q : a ∉ ws) : Arr Z h' a c ty := ⟨K.2.1 a c A.1 q, A.2⟩
theorem own_plv {Z : State} {h : Heap} {a : Addr} {k : ClassId} {ty : FieldType} {n : Int32} {vs : List Value} {d : Value} (A : Arv Z h a k ty n vs d) : ∀ c : Cell, h[a]? = some c → c.vm.isStatics = false := fun c hc => by
  obtain ⟨cl, A, -⟩ := A; have := A.1; rw [this] at hc; cases hc; exact A.plain
theorem own_pl {Z : State} {h : Heap} {a : Addr} {C : String} (E : Exa Z h a C) : ∀ c : Cell, h[a]? = some c → c.vm.isStatics = false := fun c hc => by
  obtain ⟨cell, k, h1, _, _, h4, _⟩ := E; rw [h1] at hc; cases hc; exact h4
theorem own_pl1 {h : Heap} {a : Addr} (q : ∀ c : Cell, h[a]? = some c → c.vm.isStatics = false) : ∀ x ∈ [a], ∀ c : Cell, h[x]? = some c → c.vm.isStatics = false := fun x hx => by
  cases List.mem_singleton.mp hx; exact q
end New
end Jvm.RoadKit
namespace Jvm.Pilot.@@N@@
open Jvm Jvm.ClassFile Sem Op Lib Jvm.Free Jvm.Stand Jvm.LawKit Jvm.RoadKit Bundle Jvm.Pilot.@@N@@.Jvm.D
theorem own_pd0 : parseMethodDescriptor "(I)Z" = some ⟨[.int], some .boolean⟩ := by decide +kernel
theorem own_pd1 : parseMethodDescriptor "(I)I" = some ⟨[.int], some .int⟩ := by decide +kernel
theorem own_pn0 : plainName "com/example/einzug/einzug/rules/XmlCharacters" = true := by first | (simp [plainName, overriddenIn]; done) | decide +kernel
theorem own_pn1 : plainName "com/example/einzug/einzug/rules/XmlCharactersIsSpacePinLaw" = true := by first | (simp [plainName, overriddenIn]; done) | decide +kernel

def own_sp (c : Int32) : Int32 := if c = 32 then 1 else if c = 9 then 1 else if c = 10 then 1 else if c = 13 then 1 else 0
def own_pick (i : Int32) : Int32 := if (i &&& 3) = 0 then 9 else if (i &&& 3) = 1 then 10 else if (i &&& 3) = 2 then 13 else 32
abbrev own_bit (c : Int32) : Int64 := (((4294977024 : Int64).toUInt64 >>> (c &&& 0x3f).toInt64.toUInt64).toInt64 &&& 1)
def own_ok (k : Nat) : Bool := (own_sp (Int32.ofNat k) == 0) == (own_bit (Int32.ofNat k) == 0) && (own_sp (Int32.ofNat k) == 1) == !(own_bit (Int32.ofNat k) == 0)
theorem own_all : ∀ k, k < 33 → own_ok k = true := by decide +kernel
theorem own_neg {c : Int32} (h : c < 0) : own_sp c = 0 := by
  have h32 : ¬ c = 32 := fun q => by subst q; exact absurd h (by decide)
  have h9 : ¬ c = 9 := fun q => by subst q; exact absurd h (by decide)
  have h10 : ¬ c = 10 := fun q => by subst q; exact absurd h (by decide)
  have h13 : ¬ c = 13 := fun q => by subst q; exact absurd h (by decide)
  simp only [own_sp, h32, h9, h10, h13, if_false]
theorem own_big {c : Int32} (h : 32 < c) : own_sp c = 0 := by
  have h32 : ¬ c = 32 := fun q => by subst q; exact absurd h (by decide)
  have h9 : ¬ c = 9 := fun q => by subst q; exact absurd h (by decide)
  have h10 : ¬ c = 10 := fun q => by subst q; exact absurd h (by decide)
  have h13 : ¬ c = 13 := fun q => by subst q; exact absurd h (by decide)
  simp only [own_sp, h32, h9, h10, h13, if_false]
theorem own_in {c : Int32} (h0 : ¬ c < 0) (h1 : ¬ 32 < c) : ∃ k, k < 33 ∧ c = Int32.ofNat k := by
  have a : (0 : Int) ≤ c.toInt := by
    have := Int32.not_lt.mp h0; exact Int32.le_iff_toInt_le.mp this
  have b : c.toInt ≤ 32 := by
    have := Int32.not_lt.mp h1; exact Int32.le_iff_toInt_le.mp this
  refine ⟨c.toInt.toNat, by omega, ?_⟩
  apply Int32.toInt_inj.mp
  have q := len_toInt (n := c.toInt.toNat) (by omega)
  show c.toInt = c.toInt.toNat.toInt32.toInt
  rw [q]; omega
theorem own_zero {c : Int32} (h0 : ¬ c < 0) (h1 : ¬ 32 < c) (h : own_bit c = 0) : own_sp c = 0 := by
  obtain ⟨k, hk, rfl⟩ := own_in h0 h1
  have := own_all k hk
  simp only [own_ok, Bool.and_eq_true, beq_iff_eq] at this
  simpa [h] using this.1
theorem own_one {c : Int32} (h0 : ¬ c < 0) (h1 : ¬ 32 < c) (h : ¬ own_bit c = 0) : own_sp c = 1 := by
  obtain ⟨k, hk, rfl⟩ := own_in h0 h1
  have := own_all k hk
  simp only [own_ok, Bool.and_eq_true, beq_iff_eq] at this
  have h' : (own_bit (Int32.ofNat k) == 0) = false := by simpa using h
  simpa [h'] using this.2

theorem d1_0 : decode prog_199_method_2_code 0 = .ok (.iload_n 0, 1) := by decide +kernel
theorem d1_1 : decode prog_199_method_2_code 1 = .ok (.bipush 32, 2) := by decide +kernel
theorem d1_3 : decode prog_199_method_2_code 3 = .ok (.if_icmp .eq 21, 3) := by decide +kernel
theorem d1_6 : decode prog_199_method_2_code 6 = .ok (.iload_n 0, 1) := by decide +kernel
theorem d1_7 : decode prog_199_method_2_code 7 = .ok (.bipush 9, 2) := by decide +kernel
theorem d1_9 : decode prog_199_method_2_code 9 = .ok (.if_icmp .eq 15, 3) := by decide +kernel
theorem d1_12 : decode prog_199_method_2_code 12 = .ok (.iload_n 0, 1) := by decide +kernel
theorem d1_13 : decode prog_199_method_2_code 13 = .ok (.bipush 10, 2) := by decide +kernel
theorem d1_15 : decode prog_199_method_2_code 15 = .ok (.if_icmp .eq 9, 3) := by decide +kernel
theorem d1_18 : decode prog_199_method_2_code 18 = .ok (.iload_n 0, 1) := by decide +kernel
theorem d1_19 : decode prog_199_method_2_code 19 = .ok (.bipush 13, 2) := by decide +kernel
theorem d1_21 : decode prog_199_method_2_code 21 = .ok (.if_icmp .ne 7, 3) := by decide +kernel
theorem d1_24 : decode prog_199_method_2_code 24 = .ok (.iconst 1, 1) := by decide +kernel
theorem d1_25 : decode prog_199_method_2_code 25 = .ok (.goto 4, 3) := by decide +kernel
theorem d1_28 : decode prog_199_method_2_code 28 = .ok (.iconst 0, 1) := by decide +kernel
theorem d1_29 : decode prog_199_method_2_code 29 = .ok (.ireturn, 1) := by decide +kernel
theorem ef_1 (m : MethodId) (p1 : Int32) : entryFrame m #[(.int p1)] 1 = mkF m 0 #[.val (.int p1)] [] := by first | (simp [entryFrame, mkF, argsToLocals, Value.category]; done) | rfl
def Q1 (Z : State) (p1 : Int32)  (h0 : Heap) (n0 : Nat) (v : Option Value) (h : Heap) (L : List Loc) : Prop := v = some (.int (own_sp p1)) ∧ Fr n0 L ∧ h = h0
set_option maxRecDepth 65536 in
set_option maxHeartbeats 40000000 in
theorem rm1 (l : Launch) (Z : State) (a0 : Array Value) (hw : ∀ d ∈ tables_1, d.before a0 Z = true) (ws : List Jvm.Cond) (p1 : Int32)  (h0 : Heap) (n0 : Nat) (Z0 : n0 ≤ h0.size) :
    MetFree l (⟨"com/example/einzug/einzug/rules/XmlCharacters", "isSpace", "(I)Z"⟩ : MethodName) (head1 (Jvm.Cond.code (⟨"com/example/einzug/einzug/rules/XmlCharacters", "isSpace", "(I)Z"⟩ : MethodName) prog_199_method_2_code 1 (some .boolean) :: ws) ({ frames := 0, cells := 0, slots := 0, locals := 0 } : Room)) (fun a U => a = #[(.int p1)] ∧ Z.Warmed39 U.vm ∧ U.heap = h0) (fun _ _ _ _ _ => True) (fun _ U o U' => ∃ v L, o = .returned v ∧ Q1 Z p1 h0 n0 v U'.heap L ∧ FrameEnd U o U' L ({ frames := 0, cells := 0, slots := 0, locals := 0 } : Room).cells ({ frames := 0, cells := 0, slots := 0, locals := 0 } : Room).slots) := by
  refine MetFree.of_bodySF (plainFor_of_name own_pn0) hisR ?_
  intro p e s m args below meth c s₁ Bd hml0 hP hK
  obtain ⟨rfl, hZ, hh⟩ := hP
  have hx := Bd.exec
  have hby := Bd.bytes
  have hml : c.maxLocals = 1 := hml0
  have hown : s.vm.findClass "com/example/einzug/einzug/rules/XmlCharacters" = some m.cls := findClass_of_methodNamed Bd.named
  have hnm := (name_of_methodNamed Bd.named Bd.method).1
  have X0 : Stand p l e ({ frames := 0, cells := 0, slots := 0, locals := 0 } : Room) s m #[(.int p1)] below meth c s₁ [] 0 0 := Stand.of_body Bd
  have e0 : s₁.heap = h0 := by rw [← hh, Bd.state]; rfl
  have N0 := Fr.nil n0
  refine own_top (Q := Q1 Z p1 h0 n0) (ef_1 m p1) ?_
  show own_G p.tables e below s₁ (mkF m 0 #[.val (.int p1)] []) _
  refine own_go (fun t k => XS.iloadN X0.here hx rfl (hb hby d1_0) rfl k) ?_
  show own_G p.tables e below s₁ (mkF m 1 #[.val (.int p1)] [(.int p1)]) _
  refine own_go (fun t k => XS.bipush X0.here hx rfl (hb hby d1_1) k) ?_
  show own_G p.tables e below s₁ (mkF m 3 #[.val (.int p1)] [(.int (32 : Int32)), (.int p1)]) _
  by_cases hc3_1 : p1 = (32 : Int32)
  · skip
    refine own_go (fun t k => XS.icmpYes X0.here hx rfl (pc0 := 3) (pc' := 24) rfl (hb hby d1_3) rfl (teq hc3_1).1 (by decide) (by decide) k) ?_
    show own_G p.tables e below s₁ (mkF m 24 #[.val (.int p1)] []) _
    refine own_go (fun t k => XS.iconst X0.here hx rfl (hb hby d1_24) k) ?_
    show own_G p.tables e below s₁ (mkF m 25 #[.val (.int p1)] [(.int (1 : Int32))]) _
    refine own_go (fun t k => XS.goto X0.here hx rfl (pc0 := 25) (pc' := 29) rfl (hb hby d1_25) (by decide) (by decide) k) ?_
    show own_G p.tables e below s₁ (mkF m 29 #[.val (.int p1)] [(.int (1 : Int32))]) _
    exact own_end (v := some (.int (1 : Int32))) X0 Bd.notSynchronized (fun h => by rw [Bd.returns] at h; cases h) (fun fs hr => retN X0 hx (z := (1 : Int32)) (t := .boolean) Bd.returns (by simp) (hb hby d1_29) hr) e0 ⟨congrArg (fun z => some (Value.int z)) (by unfold own_sp; rw [if_pos hc3_1]), N0, rfl⟩ (by decide) (by decide)
  · skip
    refine own_go (fun t k => XS.icmpNo X0.here hx rfl (hb hby d1_3) rfl (feq hc3_1).1 k) ?_
    show own_G p.tables e below s₁ (mkF m 6 #[.val (.int p1)] []) _
    refine own_go (fun t k => XS.iloadN X0.here hx rfl (hb hby d1_6) rfl k) ?_
    show own_G p.tables e below s₁ (mkF m 7 #[.val (.int p1)] [(.int p1)]) _
    refine own_go (fun t k => XS.bipush X0.here hx rfl (hb hby d1_7) k) ?_
    show own_G p.tables e below s₁ (mkF m 9 #[.val (.int p1)] [(.int (9 : Int32)), (.int p1)]) _
    by_cases hc9_2 : p1 = (9 : Int32)
    · skip
      refine own_go (fun t k => XS.icmpYes X0.here hx rfl (pc0 := 9) (pc' := 24) rfl (hb hby d1_9) rfl (teq hc9_2).1 (by decide) (by decide) k) ?_
      show own_G p.tables e below s₁ (mkF m 24 #[.val (.int p1)] []) _
      refine own_go (fun t k => XS.iconst X0.here hx rfl (hb hby d1_24) k) ?_
      show own_G p.tables e below s₁ (mkF m 25 #[.val (.int p1)] [(.int (1 : Int32))]) _
      refine own_go (fun t k => XS.goto X0.here hx rfl (pc0 := 25) (pc' := 29) rfl (hb hby d1_25) (by decide) (by decide) k) ?_
      show own_G p.tables e below s₁ (mkF m 29 #[.val (.int p1)] [(.int (1 : Int32))]) _
      exact own_end (v := some (.int (1 : Int32))) X0 Bd.notSynchronized (fun h => by rw [Bd.returns] at h; cases h) (fun fs hr => retN X0 hx (z := (1 : Int32)) (t := .boolean) Bd.returns (by simp) (hb hby d1_29) hr) e0 ⟨congrArg (fun z => some (Value.int z)) (by unfold own_sp; rw [if_neg hc3_1, if_pos hc9_2]), N0, rfl⟩ (by decide) (by decide)
    · skip
      refine own_go (fun t k => XS.icmpNo X0.here hx rfl (hb hby d1_9) rfl (feq hc9_2).1 k) ?_
      show own_G p.tables e below s₁ (mkF m 12 #[.val (.int p1)] []) _
      refine own_go (fun t k => XS.iloadN X0.here hx rfl (hb hby d1_12) rfl k) ?_
      show own_G p.tables e below s₁ (mkF m 13 #[.val (.int p1)] [(.int p1)]) _
      refine own_go (fun t k => XS.bipush X0.here hx rfl (hb hby d1_13) k) ?_
      show own_G p.tables e below s₁ (mkF m 15 #[.val (.int p1)] [(.int (10 : Int32)), (.int p1)]) _
      by_cases hc15_3 : p1 = (10 : Int32)
      · skip
        refine own_go (fun t k => XS.icmpYes X0.here hx rfl (pc0 := 15) (pc' := 24) rfl (hb hby d1_15) rfl (teq hc15_3).1 (by decide) (by decide) k) ?_
        show own_G p.tables e below s₁ (mkF m 24 #[.val (.int p1)] []) _
        refine own_go (fun t k => XS.iconst X0.here hx rfl (hb hby d1_24) k) ?_
        show own_G p.tables e below s₁ (mkF m 25 #[.val (.int p1)] [(.int (1 : Int32))]) _
        refine own_go (fun t k => XS.goto X0.here hx rfl (pc0 := 25) (pc' := 29) rfl (hb hby d1_25) (by decide) (by decide) k) ?_
        show own_G p.tables e below s₁ (mkF m 29 #[.val (.int p1)] [(.int (1 : Int32))]) _
        exact own_end (v := some (.int (1 : Int32))) X0 Bd.notSynchronized (fun h => by rw [Bd.returns] at h; cases h) (fun fs hr => retN X0 hx (z := (1 : Int32)) (t := .boolean) Bd.returns (by simp) (hb hby d1_29) hr) e0 ⟨congrArg (fun z => some (Value.int z)) (by unfold own_sp; rw [if_neg hc3_1, if_neg hc9_2, if_pos hc15_3]), N0, rfl⟩ (by decide) (by decide)
      · skip
        refine own_go (fun t k => XS.icmpNo X0.here hx rfl (hb hby d1_15) rfl (feq hc15_3).1 k) ?_
        show own_G p.tables e below s₁ (mkF m 18 #[.val (.int p1)] []) _
        refine own_go (fun t k => XS.iloadN X0.here hx rfl (hb hby d1_18) rfl k) ?_
        show own_G p.tables e below s₁ (mkF m 19 #[.val (.int p1)] [(.int p1)]) _
        refine own_go (fun t k => XS.bipush X0.here hx rfl (hb hby d1_19) k) ?_
        show own_G p.tables e below s₁ (mkF m 21 #[.val (.int p1)] [(.int (13 : Int32)), (.int p1)]) _
        by_cases hc21_4 : p1 = (13 : Int32)
        · skip
          refine own_go (fun t k => XS.icmpNo X0.here hx rfl (hb hby d1_21) rfl (teq hc21_4).2 k) ?_
          show own_G p.tables e below s₁ (mkF m 24 #[.val (.int p1)] []) _
          refine own_go (fun t k => XS.iconst X0.here hx rfl (hb hby d1_24) k) ?_
          show own_G p.tables e below s₁ (mkF m 25 #[.val (.int p1)] [(.int (1 : Int32))]) _
          refine own_go (fun t k => XS.goto X0.here hx rfl (pc0 := 25) (pc' := 29) rfl (hb hby d1_25) (by decide) (by decide) k) ?_
          show own_G p.tables e below s₁ (mkF m 29 #[.val (.int p1)] [(.int (1 : Int32))]) _
          exact own_end (v := some (.int (1 : Int32))) X0 Bd.notSynchronized (fun h => by rw [Bd.returns] at h; cases h) (fun fs hr => retN X0 hx (z := (1 : Int32)) (t := .boolean) Bd.returns (by simp) (hb hby d1_29) hr) e0 ⟨congrArg (fun z => some (Value.int z)) (by unfold own_sp; rw [if_neg hc3_1, if_neg hc9_2, if_neg hc15_3, if_pos hc21_4]), N0, rfl⟩ (by decide) (by decide)
        · skip
          refine own_go (fun t k => XS.icmpYes X0.here hx rfl (pc0 := 21) (pc' := 28) rfl (hb hby d1_21) rfl (feq hc21_4).2 (by decide) (by decide) k) ?_
          show own_G p.tables e below s₁ (mkF m 28 #[.val (.int p1)] []) _
          refine own_go (fun t k => XS.iconst X0.here hx rfl (hb hby d1_28) k) ?_
          show own_G p.tables e below s₁ (mkF m 29 #[.val (.int p1)] [(.int (0 : Int32))]) _
          exact own_end (v := some (.int (0 : Int32))) X0 Bd.notSynchronized (fun h => by rw [Bd.returns] at h; cases h) (fun fs hr => retN X0 hx (z := (0 : Int32)) (t := .boolean) Bd.returns (by simp) (hb hby d1_29) hr) e0 ⟨congrArg (fun z => some (Value.int z)) (by unfold own_sp; rw [if_neg hc3_1, if_neg hc9_2, if_neg hc15_3, if_neg hc21_4]), N0, rfl⟩ (by decide) (by decide)
theorem d2_0 : decode method_2_code 0 = .ok (.iload_n 0, 1) := by decide +kernel
theorem d2_1 : decode method_2_code 1 = .ok (.iconst 3, 1) := by decide +kernel
theorem d2_2 : decode method_2_code 2 = .ok (.iand, 1) := by decide +kernel
theorem d2_3 : decode method_2_code 3 = .ok (.istore_n 1, 1) := by decide +kernel
theorem d2_4 : decode method_2_code 4 = .ok (.iload_n 1, 1) := by decide +kernel
theorem d2_5 : decode method_2_code 5 = .ok (.ifCond .ne 6, 3) := by decide +kernel
theorem d2_8 : decode method_2_code 8 = .ok (.bipush 9, 2) := by decide +kernel
theorem d2_10 : decode method_2_code 10 = .ok (.ireturn, 1) := by decide +kernel
theorem d2_11 : decode method_2_code 11 = .ok (.iload_n 1, 1) := by decide +kernel
theorem d2_12 : decode method_2_code 12 = .ok (.iconst 1, 1) := by decide +kernel
theorem d2_13 : decode method_2_code 13 = .ok (.if_icmp .ne 6, 3) := by decide +kernel
theorem d2_16 : decode method_2_code 16 = .ok (.bipush 10, 2) := by decide +kernel
theorem d2_18 : decode method_2_code 18 = .ok (.ireturn, 1) := by decide +kernel
theorem d2_19 : decode method_2_code 19 = .ok (.iload_n 1, 1) := by decide +kernel
theorem d2_20 : decode method_2_code 20 = .ok (.iconst 2, 1) := by decide +kernel
theorem d2_21 : decode method_2_code 21 = .ok (.if_icmp .ne 6, 3) := by decide +kernel
theorem d2_24 : decode method_2_code 24 = .ok (.bipush 13, 2) := by decide +kernel
theorem d2_26 : decode method_2_code 26 = .ok (.ireturn, 1) := by decide +kernel
theorem d2_27 : decode method_2_code 27 = .ok (.bipush 32, 2) := by decide +kernel
theorem d2_29 : decode method_2_code 29 = .ok (.ireturn, 1) := by decide +kernel
theorem ef_2 (m : MethodId) (p1 : Int32) : entryFrame m #[(.int p1)] 2 = mkF m 0 #[.val (.int p1), .unset] [] := by first | (simp [entryFrame, mkF, argsToLocals, Value.category]; done) | rfl
def Q2 (Z : State) (p1 : Int32)  (h0 : Heap) (n0 : Nat) (v : Option Value) (h : Heap) (L : List Loc) : Prop := v = some (.int (own_pick p1)) ∧ Fr n0 L ∧ h = h0
set_option maxRecDepth 65536 in
set_option maxHeartbeats 40000000 in
theorem rm2 (l : Launch) (Z : State) (a0 : Array Value) (hw : ∀ d ∈ tables_1, d.before a0 Z = true) (ws : List Jvm.Cond) (p1 : Int32)  (h0 : Heap) (n0 : Nat) (Z0 : n0 ≤ h0.size) :
    MetFree l (⟨"com/example/einzug/einzug/rules/XmlCharactersIsSpacePinLaw", "pickSpace", "(I)I"⟩ : MethodName) (head1 (Jvm.Cond.code (⟨"com/example/einzug/einzug/rules/XmlCharactersIsSpacePinLaw", "pickSpace", "(I)I"⟩ : MethodName) method_2_code 2 (some .int) :: ws) ({ frames := 0, cells := 0, slots := 0, locals := 0 } : Room)) (fun a U => a = #[(.int p1)] ∧ Z.Warmed39 U.vm ∧ U.heap = h0) (fun _ _ _ _ _ => True) (fun _ U o U' => ∃ v L, o = .returned v ∧ Q2 Z p1 h0 n0 v U'.heap L ∧ FrameEnd U o U' L ({ frames := 0, cells := 0, slots := 0, locals := 0 } : Room).cells ({ frames := 0, cells := 0, slots := 0, locals := 0 } : Room).slots) := by
  refine MetFree.of_bodySF (plainFor_of_name own_pn1) hisR ?_
  intro p e s m args below meth c s₁ Bd hml0 hP hK
  obtain ⟨rfl, hZ, hh⟩ := hP
  have hx := Bd.exec
  have hby := Bd.bytes
  have hml : c.maxLocals = 2 := hml0
  have hown : s.vm.findClass "com/example/einzug/einzug/rules/XmlCharactersIsSpacePinLaw" = some m.cls := findClass_of_methodNamed Bd.named
  have hnm := (name_of_methodNamed Bd.named Bd.method).1
  have X0 : Stand p l e ({ frames := 0, cells := 0, slots := 0, locals := 0 } : Room) s m #[(.int p1)] below meth c s₁ [] 0 0 := Stand.of_body Bd
  have e0 : s₁.heap = h0 := by rw [← hh, Bd.state]; rfl
  have N0 := Fr.nil n0
  refine own_top (Q := Q2 Z p1 h0 n0) (ef_2 m p1) ?_
  show own_G p.tables e below s₁ (mkF m 0 #[.val (.int p1), .unset] []) _
  refine own_go (fun t k => XS.iloadN X0.here hx rfl (hb hby d2_0) rfl k) ?_
  show own_G p.tables e below s₁ (mkF m 1 #[.val (.int p1), .unset] [(.int p1)]) _
  refine own_go (fun t k => XS.iconst X0.here hx rfl (hb hby d2_1) k) ?_
  show own_G p.tables e below s₁ (mkF m 2 #[.val (.int p1), .unset] [(.int (3 : Int32)), (.int p1)]) _
  refine own_go (fun t k => XS.iand X0.here hx rfl (hb hby d2_2) rfl k) ?_
  show own_G p.tables e below s₁ (mkF m 3 #[.val (.int p1), .unset] [(.int (p1 &&& (3 : Int32)))]) _
  refine own_go (fun t k => XS.istoreN X0.here hx rfl (hb hby d2_3) rfl (l' := #[.val (.int p1), .val (.int (p1 &&& (3 : Int32)))]) rfl k) ?_
  show own_G p.tables e below s₁ (mkF m 4 #[.val (.int p1), .val (.int (p1 &&& (3 : Int32)))] []) _
  refine own_go (fun t k => XS.iloadN X0.here hx rfl (hb hby d2_4) rfl k) ?_
  show own_G p.tables e below s₁ (mkF m 5 #[.val (.int p1), .val (.int (p1 &&& (3 : Int32)))] [(.int (p1 &&& (3 : Int32)))]) _
  by_cases hc5_1 : (p1 &&& (3 : Int32)) = (0 : Int32)
  · skip
    refine own_go (fun t k => XS.ifNo X0.here hx rfl (hb hby d2_5) rfl ((if0 _ _).trans (teq hc5_1).2) k) ?_
    show own_G p.tables e below s₁ (mkF m 8 #[.val (.int p1), .val (.int (p1 &&& (3 : Int32)))] []) _
    refine own_go (fun t k => XS.bipush X0.here hx rfl (hb hby d2_8) k) ?_
    show own_G p.tables e below s₁ (mkF m 10 #[.val (.int p1), .val (.int (p1 &&& (3 : Int32)))] [(.int (9 : Int32))]) _
    exact own_end (v := some (.int (9 : Int32))) X0 Bd.notSynchronized (fun h => by rw [Bd.returns] at h; cases h) (fun fs hr => retI X0 hx Bd.returns (hb hby d2_10) hr) e0 ⟨congrArg (fun z => some (Value.int z)) (by unfold own_pick; rw [if_pos hc5_1]), N0, rfl⟩ (by decide) (by decide)
  · skip
    refine own_go (fun t k => XS.ifYes X0.here hx rfl (pc0 := 5) (pc' := 11) rfl (hb hby d2_5) rfl ((if0 _ _).trans (feq hc5_1).2) (by decide) (by decide) k) ?_
    show own_G p.tables e below s₁ (mkF m 11 #[.val (.int p1), .val (.int (p1 &&& (3 : Int32)))] []) _
    refine own_go (fun t k => XS.iloadN X0.here hx rfl (hb hby d2_11) rfl k) ?_
    show own_G p.tables e below s₁ (mkF m 12 #[.val (.int p1), .val (.int (p1 &&& (3 : Int32)))] [(.int (p1 &&& (3 : Int32)))]) _
    refine own_go (fun t k => XS.iconst X0.here hx rfl (hb hby d2_12) k) ?_
    show own_G p.tables e below s₁ (mkF m 13 #[.val (.int p1), .val (.int (p1 &&& (3 : Int32)))] [(.int (1 : Int32)), (.int (p1 &&& (3 : Int32)))]) _
    by_cases hc13_2 : (p1 &&& (3 : Int32)) = (1 : Int32)
    · skip
      refine own_go (fun t k => XS.icmpNo X0.here hx rfl (hb hby d2_13) rfl (teq hc13_2).2 k) ?_
      show own_G p.tables e below s₁ (mkF m 16 #[.val (.int p1), .val (.int (p1 &&& (3 : Int32)))] []) _
      refine own_go (fun t k => XS.bipush X0.here hx rfl (hb hby d2_16) k) ?_
      show own_G p.tables e below s₁ (mkF m 18 #[.val (.int p1), .val (.int (p1 &&& (3 : Int32)))] [(.int (10 : Int32))]) _
      exact own_end (v := some (.int (10 : Int32))) X0 Bd.notSynchronized (fun h => by rw [Bd.returns] at h; cases h) (fun fs hr => retI X0 hx Bd.returns (hb hby d2_18) hr) e0 ⟨congrArg (fun z => some (Value.int z)) (by unfold own_pick; rw [if_neg hc5_1, if_pos hc13_2]), N0, rfl⟩ (by decide) (by decide)
    · skip
      refine own_go (fun t k => XS.icmpYes X0.here hx rfl (pc0 := 13) (pc' := 19) rfl (hb hby d2_13) rfl (feq hc13_2).2 (by decide) (by decide) k) ?_
      show own_G p.tables e below s₁ (mkF m 19 #[.val (.int p1), .val (.int (p1 &&& (3 : Int32)))] []) _
      refine own_go (fun t k => XS.iloadN X0.here hx rfl (hb hby d2_19) rfl k) ?_
      show own_G p.tables e below s₁ (mkF m 20 #[.val (.int p1), .val (.int (p1 &&& (3 : Int32)))] [(.int (p1 &&& (3 : Int32)))]) _
      refine own_go (fun t k => XS.iconst X0.here hx rfl (hb hby d2_20) k) ?_
      show own_G p.tables e below s₁ (mkF m 21 #[.val (.int p1), .val (.int (p1 &&& (3 : Int32)))] [(.int (2 : Int32)), (.int (p1 &&& (3 : Int32)))]) _
      by_cases hc21_3 : (p1 &&& (3 : Int32)) = (2 : Int32)
      · skip
        refine own_go (fun t k => XS.icmpNo X0.here hx rfl (hb hby d2_21) rfl (teq hc21_3).2 k) ?_
        show own_G p.tables e below s₁ (mkF m 24 #[.val (.int p1), .val (.int (p1 &&& (3 : Int32)))] []) _
        refine own_go (fun t k => XS.bipush X0.here hx rfl (hb hby d2_24) k) ?_
        show own_G p.tables e below s₁ (mkF m 26 #[.val (.int p1), .val (.int (p1 &&& (3 : Int32)))] [(.int (13 : Int32))]) _
        exact own_end (v := some (.int (13 : Int32))) X0 Bd.notSynchronized (fun h => by rw [Bd.returns] at h; cases h) (fun fs hr => retI X0 hx Bd.returns (hb hby d2_26) hr) e0 ⟨congrArg (fun z => some (Value.int z)) (by unfold own_pick; rw [if_neg hc5_1, if_neg hc13_2, if_pos hc21_3]), N0, rfl⟩ (by decide) (by decide)
      · skip
        refine own_go (fun t k => XS.icmpYes X0.here hx rfl (pc0 := 21) (pc' := 27) rfl (hb hby d2_21) rfl (feq hc21_3).2 (by decide) (by decide) k) ?_
        show own_G p.tables e below s₁ (mkF m 27 #[.val (.int p1), .val (.int (p1 &&& (3 : Int32)))] []) _
        refine own_go (fun t k => XS.bipush X0.here hx rfl (hb hby d2_27) k) ?_
        show own_G p.tables e below s₁ (mkF m 29 #[.val (.int p1), .val (.int (p1 &&& (3 : Int32)))] [(.int (32 : Int32))]) _
        exact own_end (v := some (.int (32 : Int32))) X0 Bd.notSynchronized (fun h => by rw [Bd.returns] at h; cases h) (fun fs hr => retI X0 hx Bd.returns (hb hby d2_29) hr) e0 ⟨congrArg (fun z => some (Value.int z)) (by unfold own_pick; rw [if_neg hc5_1, if_neg hc13_2, if_neg hc21_3]), N0, rfl⟩ (by decide) (by decide)
theorem ef_0 (m : MethodId) (p1 : Int32) (p2 : Int32) : entryFrame m #[(.int p1), (.int p2)] maxLocals = mkF m 0 #[.val (.int p1), .val (.int p2), .unset, .unset, .unset, .unset, .unset] [] := by first | (simp [entryFrame, mkF, argsToLocals, Value.category, maxLocals]; done) | rfl
def Q0 (Z : State) (p1 : Int32) (p2 : Int32)  (h0 : Heap) (n0 : Nat) (v : Option Value) (h : Heap) (L : List Loc) : Prop := v = some (.int (1 : Int32)) ∧ Fr n0 L
set_option maxRecDepth 65536 in
set_option maxHeartbeats 40000000 in
theorem rm0 (l : Launch) (Z : State) (a0 : Array Value) (hw : ∀ d ∈ tables_1, d.before a0 Z = true) (ws : List Jvm.Cond) (p1 : Int32) (p2 : Int32)  (h0 : Heap) (n0 : Nat) (Z0 : n0 ≤ h0.size) :
    MetFree l x (head1 (Jvm.Cond.code x code maxLocals ret :: ws) room_1) (fun a U => a = #[(.int p1), (.int p2)] ∧ Z.Warmed39 U.vm ∧ U.heap = h0) (fun _ _ _ _ _ => True) (fun _ U o U' => ∃ v L, o = .returned v ∧ Q0 Z p1 p2 h0 n0 v U'.heap L ∧ FrameEnd U o U' L 0 0) := by
  refine MetFree.of_bodySF (plainFor_of_name own_pn1) hisR ?_
  intro p e s m args below meth c s₁ Bd hml0 hP hK
  obtain ⟨rfl, hZ, hh⟩ := hP
  have hx := Bd.exec
  have hby := Bd.bytes
  have hml : c.maxLocals = 7 := hml0
  have hown : s.vm.findClass "com/example/einzug/einzug/rules/XmlCharactersIsSpacePinLaw" = some m.cls := findClass_of_methodNamed Bd.named
  have hnm := (name_of_methodNamed Bd.named Bd.method).1
  have X0 : Stand p l e room_1 s m #[(.int p1), (.int p2)] below meth c s₁ [] 0 0 := Stand.of_body Bd
  have e0 : s₁.heap = h0 := by rw [← hh, Bd.state]; rfl
  have N0 := Fr.nil n0
  refine own_top (Q := Q0 Z p1 p2 h0 n0) (ef_0 m p1 p2) ?_
  have tail : ∀ (k2 cp : Int32) (Tt : State) (locs : List Loc), Stand p l e room_1 s m #[(.int p1), (.int p2)] below meth c Tt locs 0 0 → Tt.heap = h0 → Fr n0 locs → own_G p.tables e below Tt (mkF m 45 #[.val (.int p1), .val (.int p2), .val (.int k2), .val (.int cp), .unset, .unset, .unset] []) (own_P below s (Q0 Z p1 p2 h0 n0) 0 0) := by
    intro k2 cp Tt locs Xt et Nt
    show own_G p.tables e below Tt (mkF m 45 #[.val (.int p1), .val (.int p2), .val (.int k2), .val (.int cp), .unset, .unset, .unset] []) _
    refine own_go (fun t k => Xt.ldc2Long hx hown (mvT hZ (hw _ (List.mem_of_getElem? (i := 0) rfl))) (g := (mkF m 45 #[.val (.int p1), .val (.int p2), .val (.int k2), .val (.int cp), .unset, .unset, .unset] [])) rfl (hb hby at_45) _ k) ?_
    show own_G p.tables e below Tt (mkF m 48 #[.val (.int p1), .val (.int p2), .val (.int k2), .val (.int cp), .unset, .unset, .unset] [(.long (4294977024 : Int64))]) _
    refine own_go (fun t k => XS.lstore Xt.here hx rfl (hb hby at_48) rfl (l' := #[.val (.int p1), .val (.int p2), .val (.int k2), .val (.int cp), .val (.long (4294977024 : Int64)), .second, .unset]) rfl k) ?_
    show own_G p.tables e below Tt (mkF m 50 #[.val (.int p1), .val (.int p2), .val (.int k2), .val (.int cp), .val (.long (4294977024 : Int64)), .second, .unset] []) _
    refine own_go (fun t k => XS.iloadN Xt.here hx rfl (hb hby at_50) rfl k) ?_
    show own_G p.tables e below Tt (mkF m 51 #[.val (.int p1), .val (.int p2), .val (.int k2), .val (.int cp), .val (.long (4294977024 : Int64)), .second, .unset] [(.int cp)]) _
    by_cases hc51_1 : cp < (0 : Int32)
    · skip
      refine own_go (fun t k => XS.ifYes Xt.here hx rfl (pc0 := 51) (pc' := 75) rfl (hb hby at_51) rfl ((if0 _ _).trans (tlt hc51_1).1) (by decide) (by decide) k) ?_
      show own_G p.tables e below Tt (mkF m 75 #[.val (.int p1), .val (.int p2), .val (.int k2), .val (.int cp), .val (.long (4294977024 : Int64)), .second, .unset] []) _
      refine own_go (fun t k => XS.iconst Xt.here hx rfl (hb hby at_75) k) ?_
      show own_G p.tables e below Tt (mkF m 76 #[.val (.int p1), .val (.int p2), .val (.int k2), .val (.int cp), .val (.long (4294977024 : Int64)), .second, .unset] [(.int (0 : Int32))]) _
      refine own_go (fun t k => XS.istore Xt.here hx rfl (hb hby at_76) rfl (l' := #[.val (.int p1), .val (.int p2), .val (.int k2), .val (.int cp), .val (.long (4294977024 : Int64)), .second, .val (.int (0 : Int32))]) rfl k) ?_
      show own_G p.tables e below Tt (mkF m 78 #[.val (.int p1), .val (.int p2), .val (.int k2), .val (.int cp), .val (.long (4294977024 : Int64)), .second, .val (.int (0 : Int32))] []) _
      refine own_go (fun t k => XS.iloadN Xt.here hx rfl (hb hby at_78) rfl k) ?_
      show own_G p.tables e below Tt (mkF m 79 #[.val (.int p1), .val (.int p2), .val (.int k2), .val (.int cp), .val (.long (4294977024 : Int64)), .second, .val (.int (0 : Int32))] [(.int cp)]) _
      obtain ⟨_, _, ⟨T2, L2, k2, n2⟩, -, X2, ⟨Lc2, hQ2, l2, y2, z2⟩, st2⟩ := Jvm.LawKit.callS Xt hx (y := (⟨"com/example/einzug/einzug/rules/XmlCharacters", "isSpace", "(I)Z"⟩ : MethodName)) hown (mvT hZ (hw _ (List.mem_of_getElem? (i := 1) rfl))) (mvT hZ (hw _ (List.mem_of_getElem? (i := 2) rfl))) (mvT hZ (hw _ (List.mem_of_getElem? (i := 3) rfl))) (mvT hZ (hw _ (List.mem_of_getElem? (i := 4) rfl))) (by decide) (backOf (W := 0) (rm1 l Z a0 hw [] cp h0 n0 Z0) hZ (hw _ (List.mem_of_getElem? (i := 4) rfl)) (hw _ (List.mem_of_getElem? (i := 3) rfl)) (by decide) (by decide)) (g := (mkF m 79 #[.val (.int p1), .val (.int p2), .val (.int k2), .val (.int cp), .val (.long (4294977024 : Int64)), .second, .val (.int (0 : Int32))] [(.int cp)])) rfl (by rw [hml]; rfl) (argsL := [(.int cp)]) (rest := []) (lenOf own_pd0 rfl) rfl (by show 2 * 0 + _ ≤ _; exact Nat.le_of_eq rfl) (hb hby at_79) (fun _ _ => ⟨rfl, et, (by decide : 0 + 0 ≤ _), (by decide : 0 + 0 ≤ _)⟩)
      dsimp only [Pt.U, Pt.locs, Pt.cells, Pt.slots] at X2 l2 y2 z2 st2 hQ2
      subst l2 y2 z2
      obtain ⟨rfl, N2q, e2⟩ := hQ2
      have N2 := Fr.app Nt N2q
      refine own_go st2 ?_
      show own_G p.tables e below T2 (mkF m 82 #[.val (.int p1), .val (.int p2), .val (.int k2), .val (.int cp), .val (.long (4294977024 : Int64)), .second, .val (.int (0 : Int32))] [(.int (own_sp cp))]) _
      refine own_go (fun t k => XS.iload X2.here hx rfl (hb hby at_82) rfl k) ?_
      show own_G p.tables e below T2 (mkF m 84 #[.val (.int p1), .val (.int p2), .val (.int k2), .val (.int cp), .val (.long (4294977024 : Int64)), .second, .val (.int (0 : Int32))] [(.int (0 : Int32)), (.int (own_sp cp))]) _
      refine own_go (fun t k => XS.icmpNo X2.here hx rfl (hb hby at_84) rfl (teq (own_neg hc51_1)).2 k) ?_
      show own_G p.tables e below T2 (mkF m 87 #[.val (.int p1), .val (.int p2), .val (.int k2), .val (.int cp), .val (.long (4294977024 : Int64)), .second, .val (.int (0 : Int32))] []) _
      refine own_go (fun t k => XS.iconst X2.here hx rfl (hb hby at_87) k) ?_
      show own_G p.tables e below T2 (mkF m 88 #[.val (.int p1), .val (.int p2), .val (.int k2), .val (.int cp), .val (.long (4294977024 : Int64)), .second, .val (.int (0 : Int32))] [(.int (1 : Int32))]) _
      refine own_go (fun t k => XS.goto X2.here hx rfl (pc0 := 88) (pc' := 92) rfl (hb hby at_88) (by decide) (by decide) k) ?_
      show own_G p.tables e below T2 (mkF m 92 #[.val (.int p1), .val (.int p2), .val (.int k2), .val (.int cp), .val (.long (4294977024 : Int64)), .second, .val (.int (0 : Int32))] [(.int (1 : Int32))]) _
      exact own_end (v := some (.int (1 : Int32))) X2 Bd.notSynchronized (fun h => by rw [Bd.returns] at h; cases h) (fun fs hr => retN X2 hx (z := (1 : Int32)) (t := .boolean) Bd.returns (by simp) (hb hby at_92) hr) e2 ⟨rfl, N2⟩ (by decide) (by decide)
    · skip
      refine own_go (fun t k => XS.ifNo Xt.here hx rfl (hb hby at_51) rfl ((if0 _ _).trans (flt hc51_1).1) k) ?_
      show own_G p.tables e below Tt (mkF m 54 #[.val (.int p1), .val (.int p2), .val (.int k2), .val (.int cp), .val (.long (4294977024 : Int64)), .second, .unset] []) _
      refine own_go (fun t k => XS.iloadN Xt.here hx rfl (hb hby at_54) rfl k) ?_
      show own_G p.tables e below Tt (mkF m 55 #[.val (.int p1), .val (.int p2), .val (.int k2), .val (.int cp), .val (.long (4294977024 : Int64)), .second, .unset] [(.int cp)]) _
      refine own_go (fun t k => XS.bipush Xt.here hx rfl (hb hby at_55) k) ?_
      show own_G p.tables e below Tt (mkF m 57 #[.val (.int p1), .val (.int p2), .val (.int k2), .val (.int cp), .val (.long (4294977024 : Int64)), .second, .unset] [(.int (32 : Int32)), (.int cp)]) _
      by_cases hc57_3 : (32 : Int32) < cp
      · skip
        refine own_go (fun t k => XS.icmpYes Xt.here hx rfl (pc0 := 57) (pc' := 75) rfl (hb hby at_57) rfl (tlt hc57_3).2.2.1 (by decide) (by decide) k) ?_
        show own_G p.tables e below Tt (mkF m 75 #[.val (.int p1), .val (.int p2), .val (.int k2), .val (.int cp), .val (.long (4294977024 : Int64)), .second, .unset] []) _
        refine own_go (fun t k => XS.iconst Xt.here hx rfl (hb hby at_75) k) ?_
        show own_G p.tables e below Tt (mkF m 76 #[.val (.int p1), .val (.int p2), .val (.int k2), .val (.int cp), .val (.long (4294977024 : Int64)), .second, .unset] [(.int (0 : Int32))]) _
        refine own_go (fun t k => XS.istore Xt.here hx rfl (hb hby at_76) rfl (l' := #[.val (.int p1), .val (.int p2), .val (.int k2), .val (.int cp), .val (.long (4294977024 : Int64)), .second, .val (.int (0 : Int32))]) rfl k) ?_
        show own_G p.tables e below Tt (mkF m 78 #[.val (.int p1), .val (.int p2), .val (.int k2), .val (.int cp), .val (.long (4294977024 : Int64)), .second, .val (.int (0 : Int32))] []) _
        refine own_go (fun t k => XS.iloadN Xt.here hx rfl (hb hby at_78) rfl k) ?_
        show own_G p.tables e below Tt (mkF m 79 #[.val (.int p1), .val (.int p2), .val (.int k2), .val (.int cp), .val (.long (4294977024 : Int64)), .second, .val (.int (0 : Int32))] [(.int cp)]) _
        obtain ⟨_, _, ⟨T4, L4, k4, n4⟩, -, X4, ⟨Lc4, hQ4, l4, y4, z4⟩, st4⟩ := Jvm.LawKit.callS Xt hx (y := (⟨"com/example/einzug/einzug/rules/XmlCharacters", "isSpace", "(I)Z"⟩ : MethodName)) hown (mvT hZ (hw _ (List.mem_of_getElem? (i := 1) rfl))) (mvT hZ (hw _ (List.mem_of_getElem? (i := 2) rfl))) (mvT hZ (hw _ (List.mem_of_getElem? (i := 3) rfl))) (mvT hZ (hw _ (List.mem_of_getElem? (i := 4) rfl))) (by decide) (backOf (W := 0) (rm1 l Z a0 hw [] cp h0 n0 Z0) hZ (hw _ (List.mem_of_getElem? (i := 4) rfl)) (hw _ (List.mem_of_getElem? (i := 3) rfl)) (by decide) (by decide)) (g := (mkF m 79 #[.val (.int p1), .val (.int p2), .val (.int k2), .val (.int cp), .val (.long (4294977024 : Int64)), .second, .val (.int (0 : Int32))] [(.int cp)])) rfl (by rw [hml]; rfl) (argsL := [(.int cp)]) (rest := []) (lenOf own_pd0 rfl) rfl (by show 2 * 0 + _ ≤ _; exact Nat.le_of_eq rfl) (hb hby at_79) (fun _ _ => ⟨rfl, et, (by decide : 0 + 0 ≤ _), (by decide : 0 + 0 ≤ _)⟩)
        dsimp only [Pt.U, Pt.locs, Pt.cells, Pt.slots] at X4 l4 y4 z4 st4 hQ4
        subst l4 y4 z4
        obtain ⟨rfl, N4q, e4⟩ := hQ4
        have N4 := Fr.app Nt N4q
        refine own_go st4 ?_
        show own_G p.tables e below T4 (mkF m 82 #[.val (.int p1), .val (.int p2), .val (.int k2), .val (.int cp), .val (.long (4294977024 : Int64)), .second, .val (.int (0 : Int32))] [(.int (own_sp cp))]) _
        refine own_go (fun t k => XS.iload X4.here hx rfl (hb hby at_82) rfl k) ?_
        show own_G p.tables e below T4 (mkF m 84 #[.val (.int p1), .val (.int p2), .val (.int k2), .val (.int cp), .val (.long (4294977024 : Int64)), .second, .val (.int (0 : Int32))] [(.int (0 : Int32)), (.int (own_sp cp))]) _
        refine own_go (fun t k => XS.icmpNo X4.here hx rfl (hb hby at_84) rfl (teq (own_big hc57_3)).2 k) ?_
        show own_G p.tables e below T4 (mkF m 87 #[.val (.int p1), .val (.int p2), .val (.int k2), .val (.int cp), .val (.long (4294977024 : Int64)), .second, .val (.int (0 : Int32))] []) _
        refine own_go (fun t k => XS.iconst X4.here hx rfl (hb hby at_87) k) ?_
        show own_G p.tables e below T4 (mkF m 88 #[.val (.int p1), .val (.int p2), .val (.int k2), .val (.int cp), .val (.long (4294977024 : Int64)), .second, .val (.int (0 : Int32))] [(.int (1 : Int32))]) _
        refine own_go (fun t k => XS.goto X4.here hx rfl (pc0 := 88) (pc' := 92) rfl (hb hby at_88) (by decide) (by decide) k) ?_
        show own_G p.tables e below T4 (mkF m 92 #[.val (.int p1), .val (.int p2), .val (.int k2), .val (.int cp), .val (.long (4294977024 : Int64)), .second, .val (.int (0 : Int32))] [(.int (1 : Int32))]) _
        exact own_end (v := some (.int (1 : Int32))) X4 Bd.notSynchronized (fun h => by rw [Bd.returns] at h; cases h) (fun fs hr => retN X4 hx (z := (1 : Int32)) (t := .boolean) Bd.returns (by simp) (hb hby at_92) hr) e4 ⟨rfl, N4⟩ (by decide) (by decide)
      · skip
        refine own_go (fun t k => XS.icmpNo Xt.here hx rfl (hb hby at_57) rfl (flt hc57_3).2.2.1 k) ?_
        show own_G p.tables e below Tt (mkF m 60 #[.val (.int p1), .val (.int p2), .val (.int k2), .val (.int cp), .val (.long (4294977024 : Int64)), .second, .unset] []) _
        refine own_go (fun t k => XS.lload Xt.here hx rfl (hb hby at_60) rfl k) ?_
        show own_G p.tables e below Tt (mkF m 62 #[.val (.int p1), .val (.int p2), .val (.int k2), .val (.int cp), .val (.long (4294977024 : Int64)), .second, .unset] [(.long (4294977024 : Int64))]) _
        refine own_go (fun t k => XS.iloadN Xt.here hx rfl (hb hby at_62) rfl k) ?_
        show own_G p.tables e below Tt (mkF m 63 #[.val (.int p1), .val (.int p2), .val (.int k2), .val (.int cp), .val (.long (4294977024 : Int64)), .second, .unset] [(.int cp), (.long (4294977024 : Int64))]) _
        refine own_go (fun t k => XS.lushr Xt.here hx rfl (hb hby at_63) rfl k) ?_
        show own_G p.tables e below Tt (mkF m 64 #[.val (.int p1), .val (.int p2), .val (.int k2), .val (.int cp), .val (.long (4294977024 : Int64)), .second, .unset] [(.long (((4294977024 : Int64).toUInt64 >>> (cp &&& 0x3f).toInt64.toUInt64).toInt64))]) _
        refine own_go (fun t k => XS.lconst Xt.here hx rfl (hb hby at_64) k) ?_
        show own_G p.tables e below Tt (mkF m 65 #[.val (.int p1), .val (.int p2), .val (.int k2), .val (.int cp), .val (.long (4294977024 : Int64)), .second, .unset] [(.long (1 : Int64)), (.long (((4294977024 : Int64).toUInt64 >>> (cp &&& 0x3f).toInt64.toUInt64).toInt64))]) _
        refine own_go (fun t k => XS.land Xt.here hx rfl (hb hby at_65) rfl k) ?_
        show own_G p.tables e below Tt (mkF m 66 #[.val (.int p1), .val (.int p2), .val (.int k2), .val (.int cp), .val (.long (4294977024 : Int64)), .second, .unset] [(.long ((((4294977024 : Int64).toUInt64 >>> (cp &&& 0x3f).toInt64.toUInt64).toInt64) &&& (1 : Int64)))]) _
        refine own_go (fun t k => XS.lconst Xt.here hx rfl (hb hby at_66) k) ?_
        show own_G p.tables e below Tt (mkF m 67 #[.val (.int p1), .val (.int p2), .val (.int k2), .val (.int cp), .val (.long (4294977024 : Int64)), .second, .unset] [(.long (0 : Int64)), (.long ((((4294977024 : Int64).toUInt64 >>> (cp &&& 0x3f).toInt64.toUInt64).toInt64) &&& (1 : Int64)))]) _
        refine own_go (fun t k => XS.lcmp Xt.here hx rfl (hb hby at_67) rfl k) ?_
        show own_G p.tables e below Tt (mkF m 68 #[.val (.int p1), .val (.int p2), .val (.int k2), .val (.int cp), .val (.long (4294977024 : Int64)), .second, .unset] [(.int (lcmpW ((((4294977024 : Int64).toUInt64 >>> (cp &&& 0x3f).toInt64.toUInt64).toInt64) &&& (1 : Int64)) (0 : Int64)))]) _
        by_cases hc68_5 : ((((4294977024 : Int64).toUInt64 >>> (cp &&& 0x3f).toInt64.toUInt64).toInt64) &&& (1 : Int64)) = (0 : Int64)
        · skip
          refine own_go (fun t k => XS.ifYes Xt.here hx rfl (pc0 := 68) (pc' := 75) rfl (hb hby at_68) rfl ((if0 _ _).trans (teq ((lw_eq _ _).mpr hc68_5)).1) (by decide) (by decide) k) ?_
          show own_G p.tables e below Tt (mkF m 75 #[.val (.int p1), .val (.int p2), .val (.int k2), .val (.int cp), .val (.long (4294977024 : Int64)), .second, .unset] []) _
          refine own_go (fun t k => XS.iconst Xt.here hx rfl (hb hby at_75) k) ?_
          show own_G p.tables e below Tt (mkF m 76 #[.val (.int p1), .val (.int p2), .val (.int k2), .val (.int cp), .val (.long (4294977024 : Int64)), .second, .unset] [(.int (0 : Int32))]) _
          refine own_go (fun t k => XS.istore Xt.here hx rfl (hb hby at_76) rfl (l' := #[.val (.int p1), .val (.int p2), .val (.int k2), .val (.int cp), .val (.long (4294977024 : Int64)), .second, .val (.int (0 : Int32))]) rfl k) ?_
          show own_G p.tables e below Tt (mkF m 78 #[.val (.int p1), .val (.int p2), .val (.int k2), .val (.int cp), .val (.long (4294977024 : Int64)), .second, .val (.int (0 : Int32))] []) _
          refine own_go (fun t k => XS.iloadN Xt.here hx rfl (hb hby at_78) rfl k) ?_
          show own_G p.tables e below Tt (mkF m 79 #[.val (.int p1), .val (.int p2), .val (.int k2), .val (.int cp), .val (.long (4294977024 : Int64)), .second, .val (.int (0 : Int32))] [(.int cp)]) _
          obtain ⟨_, _, ⟨T6, L6, k6, n6⟩, -, X6, ⟨Lc6, hQ6, l6, y6, z6⟩, st6⟩ := Jvm.LawKit.callS Xt hx (y := (⟨"com/example/einzug/einzug/rules/XmlCharacters", "isSpace", "(I)Z"⟩ : MethodName)) hown (mvT hZ (hw _ (List.mem_of_getElem? (i := 1) rfl))) (mvT hZ (hw _ (List.mem_of_getElem? (i := 2) rfl))) (mvT hZ (hw _ (List.mem_of_getElem? (i := 3) rfl))) (mvT hZ (hw _ (List.mem_of_getElem? (i := 4) rfl))) (by decide) (backOf (W := 0) (rm1 l Z a0 hw [] cp h0 n0 Z0) hZ (hw _ (List.mem_of_getElem? (i := 4) rfl)) (hw _ (List.mem_of_getElem? (i := 3) rfl)) (by decide) (by decide)) (g := (mkF m 79 #[.val (.int p1), .val (.int p2), .val (.int k2), .val (.int cp), .val (.long (4294977024 : Int64)), .second, .val (.int (0 : Int32))] [(.int cp)])) rfl (by rw [hml]; rfl) (argsL := [(.int cp)]) (rest := []) (lenOf own_pd0 rfl) rfl (by show 2 * 0 + _ ≤ _; exact Nat.le_of_eq rfl) (hb hby at_79) (fun _ _ => ⟨rfl, et, (by decide : 0 + 0 ≤ _), (by decide : 0 + 0 ≤ _)⟩)
          dsimp only [Pt.U, Pt.locs, Pt.cells, Pt.slots] at X6 l6 y6 z6 st6 hQ6
          subst l6 y6 z6
          obtain ⟨rfl, N6q, e6⟩ := hQ6
          have N6 := Fr.app Nt N6q
          refine own_go st6 ?_
          show own_G p.tables e below T6 (mkF m 82 #[.val (.int p1), .val (.int p2), .val (.int k2), .val (.int cp), .val (.long (4294977024 : Int64)), .second, .val (.int (0 : Int32))] [(.int (own_sp cp))]) _
          refine own_go (fun t k => XS.iload X6.here hx rfl (hb hby at_82) rfl k) ?_
          show own_G p.tables e below T6 (mkF m 84 #[.val (.int p1), .val (.int p2), .val (.int k2), .val (.int cp), .val (.long (4294977024 : Int64)), .second, .val (.int (0 : Int32))] [(.int (0 : Int32)), (.int (own_sp cp))]) _
          refine own_go (fun t k => XS.icmpNo X6.here hx rfl (hb hby at_84) rfl (teq (own_zero hc51_1 hc57_3 hc68_5)).2 k) ?_
          show own_G p.tables e below T6 (mkF m 87 #[.val (.int p1), .val (.int p2), .val (.int k2), .val (.int cp), .val (.long (4294977024 : Int64)), .second, .val (.int (0 : Int32))] []) _
          refine own_go (fun t k => XS.iconst X6.here hx rfl (hb hby at_87) k) ?_
          show own_G p.tables e below T6 (mkF m 88 #[.val (.int p1), .val (.int p2), .val (.int k2), .val (.int cp), .val (.long (4294977024 : Int64)), .second, .val (.int (0 : Int32))] [(.int (1 : Int32))]) _
          refine own_go (fun t k => XS.goto X6.here hx rfl (pc0 := 88) (pc' := 92) rfl (hb hby at_88) (by decide) (by decide) k) ?_
          show own_G p.tables e below T6 (mkF m 92 #[.val (.int p1), .val (.int p2), .val (.int k2), .val (.int cp), .val (.long (4294977024 : Int64)), .second, .val (.int (0 : Int32))] [(.int (1 : Int32))]) _
          exact own_end (v := some (.int (1 : Int32))) X6 Bd.notSynchronized (fun h => by rw [Bd.returns] at h; cases h) (fun fs hr => retN X6 hx (z := (1 : Int32)) (t := .boolean) Bd.returns (by simp) (hb hby at_92) hr) e6 ⟨rfl, N6⟩ (by decide) (by decide)
        · skip
          refine own_go (fun t k => XS.ifNo Xt.here hx rfl (hb hby at_68) rfl ((if0 _ _).trans (feq (mt (lw_eq _ _).mp hc68_5)).1) k) ?_
          show own_G p.tables e below Tt (mkF m 71 #[.val (.int p1), .val (.int p2), .val (.int k2), .val (.int cp), .val (.long (4294977024 : Int64)), .second, .unset] []) _
          refine own_go (fun t k => XS.iconst Xt.here hx rfl (hb hby at_71) k) ?_
          show own_G p.tables e below Tt (mkF m 72 #[.val (.int p1), .val (.int p2), .val (.int k2), .val (.int cp), .val (.long (4294977024 : Int64)), .second, .unset] [(.int (1 : Int32))]) _
          refine own_go (fun t k => XS.goto Xt.here hx rfl (pc0 := 72) (pc' := 76) rfl (hb hby at_72) (by decide) (by decide) k) ?_
          show own_G p.tables e below Tt (mkF m 76 #[.val (.int p1), .val (.int p2), .val (.int k2), .val (.int cp), .val (.long (4294977024 : Int64)), .second, .unset] [(.int (1 : Int32))]) _
          refine own_go (fun t k => XS.istore Xt.here hx rfl (hb hby at_76) rfl (l' := #[.val (.int p1), .val (.int p2), .val (.int k2), .val (.int cp), .val (.long (4294977024 : Int64)), .second, .val (.int (1 : Int32))]) rfl k) ?_
          show own_G p.tables e below Tt (mkF m 78 #[.val (.int p1), .val (.int p2), .val (.int k2), .val (.int cp), .val (.long (4294977024 : Int64)), .second, .val (.int (1 : Int32))] []) _
          refine own_go (fun t k => XS.iloadN Xt.here hx rfl (hb hby at_78) rfl k) ?_
          show own_G p.tables e below Tt (mkF m 79 #[.val (.int p1), .val (.int p2), .val (.int k2), .val (.int cp), .val (.long (4294977024 : Int64)), .second, .val (.int (1 : Int32))] [(.int cp)]) _
          obtain ⟨_, _, ⟨T7, L7, k7, n7⟩, -, X7, ⟨Lc7, hQ7, l7, y7, z7⟩, st7⟩ := Jvm.LawKit.callS Xt hx (y := (⟨"com/example/einzug/einzug/rules/XmlCharacters", "isSpace", "(I)Z"⟩ : MethodName)) hown (mvT hZ (hw _ (List.mem_of_getElem? (i := 1) rfl))) (mvT hZ (hw _ (List.mem_of_getElem? (i := 2) rfl))) (mvT hZ (hw _ (List.mem_of_getElem? (i := 3) rfl))) (mvT hZ (hw _ (List.mem_of_getElem? (i := 4) rfl))) (by decide) (backOf (W := 0) (rm1 l Z a0 hw [] cp h0 n0 Z0) hZ (hw _ (List.mem_of_getElem? (i := 4) rfl)) (hw _ (List.mem_of_getElem? (i := 3) rfl)) (by decide) (by decide)) (g := (mkF m 79 #[.val (.int p1), .val (.int p2), .val (.int k2), .val (.int cp), .val (.long (4294977024 : Int64)), .second, .val (.int (1 : Int32))] [(.int cp)])) rfl (by rw [hml]; rfl) (argsL := [(.int cp)]) (rest := []) (lenOf own_pd0 rfl) rfl (by show 2 * 0 + _ ≤ _; exact Nat.le_of_eq rfl) (hb hby at_79) (fun _ _ => ⟨rfl, et, (by decide : 0 + 0 ≤ _), (by decide : 0 + 0 ≤ _)⟩)
          dsimp only [Pt.U, Pt.locs, Pt.cells, Pt.slots] at X7 l7 y7 z7 st7 hQ7
          subst l7 y7 z7
          obtain ⟨rfl, N7q, e7⟩ := hQ7
          have N7 := Fr.app Nt N7q
          refine own_go st7 ?_
          show own_G p.tables e below T7 (mkF m 82 #[.val (.int p1), .val (.int p2), .val (.int k2), .val (.int cp), .val (.long (4294977024 : Int64)), .second, .val (.int (1 : Int32))] [(.int (own_sp cp))]) _
          refine own_go (fun t k => XS.iload X7.here hx rfl (hb hby at_82) rfl k) ?_
          show own_G p.tables e below T7 (mkF m 84 #[.val (.int p1), .val (.int p2), .val (.int k2), .val (.int cp), .val (.long (4294977024 : Int64)), .second, .val (.int (1 : Int32))] [(.int (1 : Int32)), (.int (own_sp cp))]) _
          refine own_go (fun t k => XS.icmpNo X7.here hx rfl (hb hby at_84) rfl (teq (own_one hc51_1 hc57_3 hc68_5)).2 k) ?_
          show own_G p.tables e below T7 (mkF m 87 #[.val (.int p1), .val (.int p2), .val (.int k2), .val (.int cp), .val (.long (4294977024 : Int64)), .second, .val (.int (1 : Int32))] []) _
          refine own_go (fun t k => XS.iconst X7.here hx rfl (hb hby at_87) k) ?_
          show own_G p.tables e below T7 (mkF m 88 #[.val (.int p1), .val (.int p2), .val (.int k2), .val (.int cp), .val (.long (4294977024 : Int64)), .second, .val (.int (1 : Int32))] [(.int (1 : Int32))]) _
          refine own_go (fun t k => XS.goto X7.here hx rfl (pc0 := 88) (pc' := 92) rfl (hb hby at_88) (by decide) (by decide) k) ?_
          show own_G p.tables e below T7 (mkF m 92 #[.val (.int p1), .val (.int p2), .val (.int k2), .val (.int cp), .val (.long (4294977024 : Int64)), .second, .val (.int (1 : Int32))] [(.int (1 : Int32))]) _
          exact own_end (v := some (.int (1 : Int32))) X7 Bd.notSynchronized (fun h => by rw [Bd.returns] at h; cases h) (fun fs hr => retN X7 hx (z := (1 : Int32)) (t := .boolean) Bd.returns (by simp) (hb hby at_92) hr) e7 ⟨rfl, N7⟩ (by decide) (by decide)
  show own_G p.tables e below s₁ (mkF m 0 #[.val (.int p1), .val (.int p2), .unset, .unset, .unset, .unset, .unset] []) _
  refine own_go (fun t k => XS.iloadN X0.here hx rfl (hb hby at_0) rfl k) ?_
  show own_G p.tables e below s₁ (mkF m 1 #[.val (.int p1), .val (.int p2), .unset, .unset, .unset, .unset, .unset] [(.int p2)]) _
  refine own_go (fun t k => XS.iconst X0.here hx rfl (hb hby at_1) k) ?_
  show own_G p.tables e below s₁ (mkF m 2 #[.val (.int p1), .val (.int p2), .unset, .unset, .unset, .unset, .unset] [(.int (3 : Int32)), (.int p2)]) _
  refine own_go (fun t k => XS.iand X0.here hx rfl (hb hby at_2) rfl k) ?_
  show own_G p.tables e below s₁ (mkF m 3 #[.val (.int p1), .val (.int p2), .unset, .unset, .unset, .unset, .unset] [(.int (p2 &&& (3 : Int32)))]) _
  refine own_go (fun t k => XS.istoreN X0.here hx rfl (hb hby at_3) rfl (l' := #[.val (.int p1), .val (.int p2), .val (.int (p2 &&& (3 : Int32))), .unset, .unset, .unset, .unset]) rfl k) ?_
  show own_G p.tables e below s₁ (mkF m 4 #[.val (.int p1), .val (.int p2), .val (.int (p2 &&& (3 : Int32))), .unset, .unset, .unset, .unset] []) _
  refine own_go (fun t k => XS.iloadN X0.here hx rfl (hb hby at_4) rfl k) ?_
  show own_G p.tables e below s₁ (mkF m 5 #[.val (.int p1), .val (.int p2), .val (.int (p2 &&& (3 : Int32))), .unset, .unset, .unset, .unset] [(.int (p2 &&& (3 : Int32)))]) _
  by_cases hc5_8 : (p2 &&& (3 : Int32)) = (0 : Int32)
  · skip
    refine own_go (fun t k => XS.ifNo X0.here hx rfl (hb hby at_5) rfl ((if0 _ _).trans (teq hc5_8).2) k) ?_
    show own_G p.tables e below s₁ (mkF m 8 #[.val (.int p1), .val (.int p2), .val (.int (p2 &&& (3 : Int32))), .unset, .unset, .unset, .unset] []) _
    refine own_go (fun t k => XS.iloadN X0.here hx rfl (hb hby at_8) rfl k) ?_
    show own_G p.tables e below s₁ (mkF m 9 #[.val (.int p1), .val (.int p2), .val (.int (p2 &&& (3 : Int32))), .unset, .unset, .unset, .unset] [(.int p1)]) _
    refine own_go (fun t k => XS.istoreN X0.here hx rfl (hb hby at_9) rfl (l' := #[.val (.int p1), .val (.int p2), .val (.int (p2 &&& (3 : Int32))), .val (.int p1), .unset, .unset, .unset]) rfl k) ?_
    show own_G p.tables e below s₁ (mkF m 10 #[.val (.int p1), .val (.int p2), .val (.int (p2 &&& (3 : Int32))), .val (.int p1), .unset, .unset, .unset] []) _
    refine own_go (fun t k => XS.goto X0.here hx rfl (pc0 := 10) (pc' := 45) rfl (hb hby at_10) (by decide) (by decide) k) ?_
    show own_G p.tables e below s₁ (mkF m 45 #[.val (.int p1), .val (.int p2), .val (.int (p2 &&& (3 : Int32))), .val (.int p1), .unset, .unset, .unset] []) _
    exact tail _ _ _ _ X0 e0 N0
  · skip
    refine own_go (fun t k => XS.ifYes X0.here hx rfl (pc0 := 5) (pc' := 13) rfl (hb hby at_5) rfl ((if0 _ _).trans (feq hc5_8).2) (by decide) (by decide) k) ?_
    show own_G p.tables e below s₁ (mkF m 13 #[.val (.int p1), .val (.int p2), .val (.int (p2 &&& (3 : Int32))), .unset, .unset, .unset, .unset] []) _
    refine own_go (fun t k => XS.iloadN X0.here hx rfl (hb hby at_13) rfl k) ?_
    show own_G p.tables e below s₁ (mkF m 14 #[.val (.int p1), .val (.int p2), .val (.int (p2 &&& (3 : Int32))), .unset, .unset, .unset, .unset] [(.int (p2 &&& (3 : Int32)))]) _
    refine own_go (fun t k => XS.iconst X0.here hx rfl (hb hby at_14) k) ?_
    show own_G p.tables e below s₁ (mkF m 15 #[.val (.int p1), .val (.int p2), .val (.int (p2 &&& (3 : Int32))), .unset, .unset, .unset, .unset] [(.int (1 : Int32)), (.int (p2 &&& (3 : Int32)))]) _
    by_cases hc15_9 : (p2 &&& (3 : Int32)) = (1 : Int32)
    · skip
      refine own_go (fun t k => XS.icmpNo X0.here hx rfl (hb hby at_15) rfl (teq hc15_9).2 k) ?_
      show own_G p.tables e below s₁ (mkF m 18 #[.val (.int p1), .val (.int p2), .val (.int (p2 &&& (3 : Int32))), .unset, .unset, .unset, .unset] []) _
      refine own_go (fun t k => XS.iloadN X0.here hx rfl (hb hby at_18) rfl k) ?_
      show own_G p.tables e below s₁ (mkF m 19 #[.val (.int p1), .val (.int p2), .val (.int (p2 &&& (3 : Int32))), .unset, .unset, .unset, .unset] [(.int p1)]) _
      refine own_go (fun t k => XS.bipush X0.here hx rfl (hb hby at_19) k) ?_
      show own_G p.tables e below s₁ (mkF m 21 #[.val (.int p1), .val (.int p2), .val (.int (p2 &&& (3 : Int32))), .unset, .unset, .unset, .unset] [(.int (63 : Int32)), (.int p1)]) _
      refine own_go (fun t k => XS.iand X0.here hx rfl (hb hby at_21) rfl k) ?_
      show own_G p.tables e below s₁ (mkF m 22 #[.val (.int p1), .val (.int p2), .val (.int (p2 &&& (3 : Int32))), .unset, .unset, .unset, .unset] [(.int (p1 &&& (63 : Int32)))]) _
      refine own_go (fun t k => XS.istoreN X0.here hx rfl (hb hby at_22) rfl (l' := #[.val (.int p1), .val (.int p2), .val (.int (p2 &&& (3 : Int32))), .val (.int (p1 &&& (63 : Int32))), .unset, .unset, .unset]) rfl k) ?_
      show own_G p.tables e below s₁ (mkF m 23 #[.val (.int p1), .val (.int p2), .val (.int (p2 &&& (3 : Int32))), .val (.int (p1 &&& (63 : Int32))), .unset, .unset, .unset] []) _
      refine own_go (fun t k => XS.goto X0.here hx rfl (pc0 := 23) (pc' := 45) rfl (hb hby at_23) (by decide) (by decide) k) ?_
      show own_G p.tables e below s₁ (mkF m 45 #[.val (.int p1), .val (.int p2), .val (.int (p2 &&& (3 : Int32))), .val (.int (p1 &&& (63 : Int32))), .unset, .unset, .unset] []) _
      exact tail _ _ _ _ X0 e0 N0
    · skip
      refine own_go (fun t k => XS.icmpYes X0.here hx rfl (pc0 := 15) (pc' := 26) rfl (hb hby at_15) rfl (feq hc15_9).2 (by decide) (by decide) k) ?_
      show own_G p.tables e below s₁ (mkF m 26 #[.val (.int p1), .val (.int p2), .val (.int (p2 &&& (3 : Int32))), .unset, .unset, .unset, .unset] []) _
      refine own_go (fun t k => XS.iloadN X0.here hx rfl (hb hby at_26) rfl k) ?_
      show own_G p.tables e below s₁ (mkF m 27 #[.val (.int p1), .val (.int p2), .val (.int (p2 &&& (3 : Int32))), .unset, .unset, .unset, .unset] [(.int (p2 &&& (3 : Int32)))]) _
      refine own_go (fun t k => XS.iconst X0.here hx rfl (hb hby at_27) k) ?_
      show own_G p.tables e below s₁ (mkF m 28 #[.val (.int p1), .val (.int p2), .val (.int (p2 &&& (3 : Int32))), .unset, .unset, .unset, .unset] [(.int (2 : Int32)), (.int (p2 &&& (3 : Int32)))]) _
      by_cases hc28_10 : (p2 &&& (3 : Int32)) = (2 : Int32)
      · skip
        refine own_go (fun t k => XS.icmpNo X0.here hx rfl (hb hby at_28) rfl (teq hc28_10).2 k) ?_
        show own_G p.tables e below s₁ (mkF m 31 #[.val (.int p1), .val (.int p2), .val (.int (p2 &&& (3 : Int32))), .unset, .unset, .unset, .unset] []) _
        refine own_go (fun t k => XS.iloadN X0.here hx rfl (hb hby at_31) rfl k) ?_
        show own_G p.tables e below s₁ (mkF m 32 #[.val (.int p1), .val (.int p2), .val (.int (p2 &&& (3 : Int32))), .unset, .unset, .unset, .unset] [(.int p1)]) _
        obtain ⟨_, _, ⟨T11, L11, k11, n11⟩, -, X11, ⟨Lc11, hQ11, l11, y11, z11⟩, st11⟩ := Jvm.LawKit.callS X0 hx (y := (⟨"com/example/einzug/einzug/rules/XmlCharactersIsSpacePinLaw", "pickSpace", "(I)I"⟩ : MethodName)) hown (mvT hZ (hw _ (List.mem_of_getElem? (i := 5) rfl))) (mvT hZ (hw _ (List.mem_of_getElem? (i := 6) rfl))) (mvT hZ (hw _ (List.mem_of_getElem? (i := 7) rfl))) (mvT hZ (hw _ (List.mem_of_getElem? (i := 8) rfl))) (by decide) (backOf (W := 0) (rm2 l Z a0 hw [] p1 h0 n0 Z0) hZ (hw _ (List.mem_of_getElem? (i := 8) rfl)) (hw _ (List.mem_of_getElem? (i := 7) rfl)) (by decide) (by decide)) (g := (mkF m 32 #[.val (.int p1), .val (.int p2), .val (.int (p2 &&& (3 : Int32))), .unset, .unset, .unset, .unset] [(.int p1)])) rfl (by rw [hml]; rfl) (argsL := [(.int p1)]) (rest := []) (lenOf own_pd1 rfl) rfl (by show 2 * 0 + _ ≤ _; exact Nat.le_of_eq rfl) (hb hby at_32) (fun _ _ => ⟨rfl, e0, (by decide : 0 + 0 ≤ _), (by decide : 0 + 0 ≤ _)⟩)
        dsimp only [Pt.U, Pt.locs, Pt.cells, Pt.slots] at X11 l11 y11 z11 st11 hQ11
        subst l11 y11 z11
        obtain ⟨rfl, N11q, e11⟩ := hQ11
        have N11 := Fr.app N0 N11q
        refine own_go st11 ?_
        show own_G p.tables e below T11 (mkF m 35 #[.val (.int p1), .val (.int p2), .val (.int (p2 &&& (3 : Int32))), .unset, .unset, .unset, .unset] [(.int (own_pick p1))]) _
        refine own_go (fun t k => XS.istoreN X11.here hx rfl (hb hby at_35) rfl (l' := #[.val (.int p1), .val (.int p2), .val (.int (p2 &&& (3 : Int32))), .val (.int (own_pick p1)), .unset, .unset, .unset]) rfl k) ?_
        show own_G p.tables e below T11 (mkF m 36 #[.val (.int p1), .val (.int p2), .val (.int (p2 &&& (3 : Int32))), .val (.int (own_pick p1)), .unset, .unset, .unset] []) _
        refine own_go (fun t k => XS.goto X11.here hx rfl (pc0 := 36) (pc' := 45) rfl (hb hby at_36) (by decide) (by decide) k) ?_
        show own_G p.tables e below T11 (mkF m 45 #[.val (.int p1), .val (.int p2), .val (.int (p2 &&& (3 : Int32))), .val (.int (own_pick p1)), .unset, .unset, .unset] []) _
        exact tail _ _ _ _ X11 e11 N11
      · skip
        refine own_go (fun t k => XS.icmpYes X0.here hx rfl (pc0 := 28) (pc' := 39) rfl (hb hby at_28) rfl (feq hc28_10).2 (by decide) (by decide) k) ?_
        show own_G p.tables e below s₁ (mkF m 39 #[.val (.int p1), .val (.int p2), .val (.int (p2 &&& (3 : Int32))), .unset, .unset, .unset, .unset] []) _
        refine own_go (fun t k => XS.iloadN X0.here hx rfl (hb hby at_39) rfl k) ?_
        show own_G p.tables e below s₁ (mkF m 40 #[.val (.int p1), .val (.int p2), .val (.int (p2 &&& (3 : Int32))), .unset, .unset, .unset, .unset] [(.int p1)]) _
        refine own_go (fun t k => XS.sipush X0.here hx rfl (hb hby at_40) k) ?_
        show own_G p.tables e below s₁ (mkF m 43 #[.val (.int p1), .val (.int p2), .val (.int (p2 &&& (3 : Int32))), .unset, .unset, .unset, .unset] [(.int (255 : Int32)), (.int p1)]) _
        refine own_go (fun t k => XS.iand X0.here hx rfl (hb hby at_43) rfl k) ?_
        show own_G p.tables e below s₁ (mkF m 44 #[.val (.int p1), .val (.int p2), .val (.int (p2 &&& (3 : Int32))), .unset, .unset, .unset, .unset] [(.int (p1 &&& (255 : Int32)))]) _
        refine own_go (fun t k => XS.istoreN X0.here hx rfl (hb hby at_44) rfl (l' := #[.val (.int p1), .val (.int p2), .val (.int (p2 &&& (3 : Int32))), .val (.int (p1 &&& (255 : Int32))), .unset, .unset, .unset]) rfl k) ?_
        show own_G p.tables e below s₁ (mkF m 45 #[.val (.int p1), .val (.int p2), .val (.int (p2 &&& (3 : Int32))), .val (.int (p1 &&& (255 : Int32))), .unset, .unset, .unset] []) _
        exact tail _ _ _ _ X0 e0 N0
set_option maxRecDepth 65536 in
set_option maxHeartbeats 40000000 in
theorem comes_1 {Post : Tables → Env → Array Value → State → Outcome → State → Prop} (hpost : ∀ tb e args s v u, (limb_1_1.after args s (.returned v) u = true ∧ limb_1_2.after args s (.returned v) u = true ∧ True) → FrameEnd s (.returned v) u (Jvm.fieldLocs frame_1_writes args s ++ Jvm.arrayLocs frame_1_arrays args s ++ Jvm.staticLocs frame_1_statics s) 0 0 → Post tb e args s (.returned v) u) :
    ArmFor flags0 classFile x code maxLocals ret World_1 tables_1 room_1 Calls_1 rest_1 Pre_1 Post := by
  intro l hfl _ _ p e ha hc hk s m args below hf hA hF happ hP
  obtain ⟨hcalls, hrest, hpre⟩ := hP
  obtain ⟨-, -, -, hnamed, -, -, -, hat⟩ := (Spec.applies_iff hf).mp happ
  obtain ⟨hg, hn⟩ := and_e (Cond.before_iff.mp (show (Jvm.Cond.and given_1 narrow_1).before args s = true from hpre))
  obtain ⟨g0, gr0⟩ := and_e hg
  obtain ⟨g1, gr1⟩ := and_e gr0
  obtain ⟨w0, w1, rfl⟩ : ∃ w0 w1 : Value, args = #[w0, w1] := by
    have hs : args.size = 2 := by simpa [Cond.value, given_1] using g0
    obtain ⟨L⟩ := args
    match L, hs with
    | [w0, w1], _ => exact ⟨w0, w1, rfl⟩
  have hw := fun d (hd : d ∈ tables_1) => atoms_spec (ws := Jvm.Cond.code x code maxLocals ret :: tables_1) hat d (List.mem_cons_of_mem _ hd)
  have hfit : Fit s := fun {y c} hc i hi => by
    obtain ⟨ha, rfl⟩ := Array.getElem?_eq_some_iff.mp hc
    have q := List.all_eq_true.mp ((Array.all_eq_true_iff_forall_mem.mp hF) _ (Array.getElem_mem ha)) i (List.mem_range.mpr hi)
    simpa [Array.getElem?_eq_getElem hi] using q
  obtain ⟨i0, ei0⟩ := is_v g1
  obtain rfl : w0 = (.int i0) := Option.some.inj ei0
  obtain ⟨i1, ei1⟩ := is_v gr1
  obtain rfl : w1 = (.int i1) := Option.some.inj ei1
  obtain ⟨n, o, h1, h2, h3, _, L, rfl, ⟨rfl, N⟩, hq⟩ := rm0 l s _ hw tables_1 i0 i1 s.heap s.heap.size (Nat.le_refl _) p e ha hc hk s m _ below hf ((Spec.applies_iff_loose hf).mp happ).1 ⟨rfl, State.Warmed39.refl s, rfl⟩ trivial
  refine ⟨n, _, h1, h2, h3, hpost _ _ _ _ _ _ ⟨Cond.after_iff.mpr rfl, Cond.after_iff.mpr (eq_i res_at (Term.int_eval (1)) rfl), trivial⟩ ⟨hq.1, hq.2.1, (hq.2.2.sift fun y hy => Or.inr (N y hy)).mono (by decide) (by decide)⟩⟩
theorem main_1_1 : Claimed_1_1 := comes_1 fun _ _ _ _ _ _ h hF => ⟨h.1, hF⟩
theorem main_1_2 : Claimed_1_2 := comes_1 fun _ _ _ _ _ _ h hF => ⟨h.2.1, hF⟩
end Jvm.Pilot.@@N@@
namespace Jvm.Pilot.@@N@@
open Jvm Jvm.ClassFile Sem Op Lib Jvm.Free Jvm.Stand Jvm.Pilot.@@N@@.Jvm.D
/-! MADE BY PROGRAM (witnessworld.py) out of the Statement's table words and the real class files: 9 classes; the members and pool entries that the words name. The judged class is class 1, her method 2. -/
namespace start1
open Jvm.ClassFile
def u (s : String) : CpInfo := .utf8 (stringToUtf16 s)
/-- a pool by its gaps: so many unusable entries, then the entry; so many at the end -/
def gap : Nat → List CpInfo → List CpInfo
  | 0, r => r
  | n + 1, r => .unusable :: gap n r
def poolList (es : List (Nat × CpInfo)) (last : Nat) : List CpInfo := es.foldr (fun e r => gap e.1 (e.2 :: r)) (gap last [])
def pool (es : List (Nat × CpInfo)) (last : Nat) : Array CpInfo := ⟨poolList es last⟩
def fileOf (pool : Array CpInfo) (this : Nat) (attrs : Array Attribute := #[]) (ms : Array MethodInfo := #[]) (fl : Nat := 33) (sup : Nat := 0) (ifs : Array Nat := #[]) (fds : Array FieldInfo := #[]) : ClassFile where
  minorVersion := 0
  majorVersion := 65
  constantPool := pool
  accessFlags := fl
  thisClass := this
  superClass := sup
  interfaces := ifs
  fields := fds
  methods := ms
  attributes := attrs
def plain (name : String) (sup : Option ClassId) : Class where
  name := name
  kind := .ordinary
  loader := none
  accessFlags := 33
  super := sup
  interfaces := #[]
  cf := none
  fields := #[]
  methods := #[]
  instanceTypes := #[]
  staticTypes := #[]
  resolved := #[]
  callSites := []
  init := .initialized
  statics := none
  mirror := none

def pool0 : Array CpInfo := pool [(5, u "<init>"), (0, u "()V"), (1, .class_ 10), (1, u "java/lang/Object")] 113

def k0m0 : Method := { name := "<init>", desc := "()V", sig := { parameters := [], returnType := none }, accessFlags := 1, code := none }
/-- java/lang/Object -/
def k0 : Class := { plain "java/lang/Object" none with
  accessFlags := 33
  interfaces := #[]
  cf := some (fileOf pool0 8 #[] #[{ accessFlags := 1, nameIndex := 5, descriptorIndex := 6, attributes := #[] }] 33 0 #[] #[])
  fields := #[]
  methods := #[k0m0]
  instanceTypes := #[]
  staticTypes := #[]
  resolved := Array.replicate 124 none
  statics := none }

def pool1 : Array CpInfo := pool [(2, .class_ 4), (1, u "java/lang/Object"), (0, u "<init>"), (0, u "()V"), (0, .methodref 8 9), (0, .class_ 10), (0, .nameAndType 11 12), (0, u "com/example/einzug/einzug/rules/XmlCharactersIsSpacePinLaw"), (0, u "pickSpace"), (0, u "(I)I"), (0, .long 4294977024), (1, .methodref 16 17), (0, .class_ 18), (0, .nameAndType 19 20), (0, u "com/example/einzug/einzug/rules/XmlCharacters"), (0, u "isSpace"), (0, u "(I)Z"), (3, u "law"), (0, u "(II)Z")] 2

def k1m0 : Method := { name := "<init>", desc := "()V", sig := { parameters := [], returnType := none }, accessFlags := 2, code := none }
def k1c1 : Code := { maxStack := 2, maxLocals := 2, code := method_2_code, exceptionTable := #[], attributes := #[] }
def k1m1 : Method := { name := "pickSpace", desc := "(I)I", sig := { parameters := [.int], returnType := some .int }, accessFlags := 10, code := some k1c1 }
def k1c2 : Code := { maxStack := 4, maxLocals := 7, code := code, exceptionTable := #[], attributes := #[] }
def k1m2 : Method := { name := "law", desc := "(II)Z", sig := { parameters := [.int, .int], returnType := some .boolean }, accessFlags := 9, code := some k1c2 }
/-- com/example/einzug/einzug/rules/XmlCharactersIsSpacePinLaw -/
def k1 : Class := { plain "com/example/einzug/einzug/rules/XmlCharactersIsSpacePinLaw" (some 0) with
  accessFlags := 49
  interfaces := #[]
  cf := some (fileOf pool1 8 #[] #[{ accessFlags := 2, nameIndex := 5, descriptorIndex := 6, attributes := #[] }, { accessFlags := 10, nameIndex := 11, descriptorIndex := 12, attributes := #[] }, { accessFlags := 9, nameIndex := 24, descriptorIndex := 25, attributes := #[] }] 49 2 #[] #[])
  fields := #[]
  methods := #[k1m0, k1m1, k1m2]
  instanceTypes := #[]
  staticTypes := #[]
  resolved := Array.replicate 28 none
  statics := none }

def pool2 : Array CpInfo := pool [(2, .class_ 4), (1, u "java/lang/Object"), (0, u "<init>"), (0, u "()V"), (22, .class_ 31), (1, u "com/example/einzug/einzug/rules/XmlCharacters"), (1, u "(I)Z"), (16, u "isSpace")] 5

def k2m0 : Method := { name := "<init>", desc := "()V", sig := { parameters := [], returnType := none }, accessFlags := 2, code := none }
def k2c1 : Code := { maxStack := 2, maxLocals := 1, code := prog_199_method_2_code, exceptionTable := #[], attributes := #[] }
def k2m1 : Method := { name := "isSpace", desc := "(I)Z", sig := { parameters := [.int], returnType := some .boolean }, accessFlags := 9, code := some k2c1 }
/-- com/example/einzug/einzug/rules/XmlCharacters -/
def k2 : Class := { plain "com/example/einzug/einzug/rules/XmlCharacters" (some 0) with
  accessFlags := 49
  interfaces := #[]
  cf := some (fileOf pool2 29 #[] #[{ accessFlags := 2, nameIndex := 5, descriptorIndex := 6, attributes := #[] }, { accessFlags := 9, nameIndex := 50, descriptorIndex := 33, attributes := #[] }] 49 2 #[] #[])
  fields := #[]
  methods := #[k2m0, k2m1]
  instanceTypes := #[]
  staticTypes := #[]
  resolved := Array.replicate 56 none
  statics := none }

def pool3 : Array CpInfo := pool [(1, u "java/lang/Cloneable"), (0, .class_ 1), (0, u "java/lang/Object"), (0, .class_ 3)] 3

/-- java/lang/Cloneable -/
def k3 : Class := { plain "java/lang/Cloneable" (some 0) with
  accessFlags := 1537
  interfaces := #[]
  cf := some (fileOf pool3 2 #[] #[] 1537 4 #[] #[])
  fields := #[]
  methods := #[]
  instanceTypes := #[]
  staticTypes := #[]
  resolved := Array.replicate 8 none
  statics := none }

def pool4 : Array CpInfo := pool [(1, u "java/io/Serializable"), (0, .class_ 1), (0, u "java/lang/Object"), (0, .class_ 3)] 3

/-- java/io/Serializable -/
def k4 : Class := { plain "java/io/Serializable" (some 0) with
  accessFlags := 1537
  interfaces := #[]
  cf := some (fileOf pool4 2 #[] #[] 1537 4 #[] #[])
  fields := #[]
  methods := #[]
  instanceTypes := #[]
  staticTypes := #[]
  resolved := Array.replicate 8 none
  statics := none }

/-- the primitive byte -/
def k5 : Class := { plain "byte" none with kind := .primitive 'B', accessFlags := 0x411 }
/-- [B -/
def k6 : Class := { plain "[B" (some 0) with kind := .array 5 .byte, interfaces := #[3, 4], accessFlags := 1041 }

/-- the primitive int -/
def k7 : Class := { plain "int" none with kind := .primitive 'I', accessFlags := 0x411 }
/-- [I -/
def k8 : Class := { plain "[I" (some 0) with kind := .array 7 .int, interfaces := #[3, 4], accessFlags := 1041 }

def heap : Heap := #[]
def classes : Array Class := #[k0, k1, k2, k3, k4, k5, k6, k7, k8]
def interned : List (Array UInt16 × Addr) := []
def slotsUsed : Nat := 0
def theMethod : MethodId := ⟨1, 2⟩
def args0 : Array Value := #[.int 5, .int 1]
def aboutOver (below : List Frame) : State where
  vm := { classes := classes, interned := interned.toArray }
  heap := heap
  slotsUsed := slotsUsed
  threads := #[{ frames := .invoking theMethod args0 :: below }]
def below0 : List Frame := [.native { method := ⟨0, 0⟩, args := #[] }]
def about1 : State := aboutOver below0
def p0 : Program := .bare "" "" ""
def e0 : Env := launch0.env 0 0 0
theorem w_frames : about1.frames = Frame.invoking theMethod args0 :: below0 := rfl
set_option maxRecDepth 65536 in
theorem w_args : argsFit about1.vm theMethod args0 = true := by decide +kernel
set_option maxRecDepth 65536 in
theorem w_heap : heapFits about1 = true := by decide +kernel
set_option maxRecDepth 65536 in
theorem w_runnable : about1.curStatus? = some .runnable := by decide +kernel
set_option maxRecDepth 65536 in
theorem w_alone : about1.alone = true := by decide +kernel
set_option maxRecDepth 65536 in
theorem w_named : about1.methodNamed? x = some theMethod := by decide +kernel
set_option maxRecDepth 65536 in
theorem w_hears : about1.hears theMethod below0 = true := by decide +kernel
set_option maxRecDepth 65536 in
theorem w_ripe : about1.ripe theMethod args0 below0 = true := by decide +kernel
theorem w_running : about1.status = .running := rfl
set_option maxRecDepth 65536 in
theorem w_room : about1.hasRoom e0.platform room_1 = true :=
  launch0.hasRoom_least _ room_1 (by decide +kernel) (by decide +kernel) (by decide +kernel) (by decide +kernel) (by decide +kernel) (by decide +kernel)
theorem allAtoms_all (ts : List Jvm.Cond) (a : Array Jvm.Value) (st : Jvm.State) : (allAtoms ts).before a st = ts.all (fun c => c.before a st) := by
  induction ts with
  | nil => rfl
  | cons c t ih =>
    show (Jvm.Cond.and c (allAtoms t)).before a st = _
    rw [Jvm.Cond.before_and, ih, List.all_cons]
def words1 : List Jvm.Cond := Jvm.Cond.code x code maxLocals ret :: tables_1
/-- a 'code' word, met by the world's own term for the bytes: nothing is compared byte by byte -/
theorem code_word {y : MethodName} {bytes : ByteArray} {mx : Nat} {rt : Option FieldType} {a : Array Value} {s : State} {m : MethodId} {meth : Method} {c : Code} (h1 : s.methodNamed? y = some m) (h2 : s.vm.method? m = some meth) (h3 : meth.code = some c) (h4 : c.code = bytes)
    (h5 : (c.maxLocals == mx && c.exceptionTable.isEmpty && decide (c.maxStack ≤ mostOperands) && decide (meth.sig.returnType = rt) && !meth.locks && decide (parseMethodDescriptor y.desc = some meth.sig)) = true) : (Jvm.Cond.code y bytes mx rt).before a s = true := by
  simp only [Bool.and_eq_true, beq_iff_eq, Bool.not_eq_true', decide_eq_true_eq] at h5
  obtain ⟨⟨⟨⟨⟨g1, g2⟩, g3⟩, g4⟩, g5⟩, g6⟩ := h5
  simp [Cond.before, Cond.holds, Cond.value, h1, h2, h3, h4, g1, g2, g3, g4, g5, g6]
def isCode : Jvm.Cond → Bool
  | .code _ _ _ _ => true
  | _ => false
theorem all_split {L : List Jvm.Cond} {P : Jvm.Cond → Bool} (h1 : L.all (fun c => isCode c || P c) = true) (h2 : ∀ c ∈ L.filter isCode, P c = true) : L.all P = true := by
  refine List.all_eq_true.mpr fun c hc => ?_
  have h := List.all_eq_true.mp h1 c hc
  rcases Bool.eq_false_or_eq_true (isCode c) with hi | hi
  · exact h2 c (List.mem_filter.mpr ⟨hc, hi⟩)
  · simpa [hi] using h
set_option maxRecDepth 65536 in
theorem w_c0 : (Jvm.Cond.code x code maxLocals ret).before args0 about1 = true := code_word (m := ⟨1, 2⟩) (meth := k1m2) (c := k1c2) (by decide +kernel) rfl rfl rfl (by decide +kernel)
set_option maxRecDepth 65536 in
theorem w_c1 : (Jvm.Cond.code ({ cls := "com/example/einzug/einzug/rules/XmlCharacters", name := "isSpace", desc := "(I)Z" } : Jvm.MethodName) prog_199_method_2_code (1 : Nat) (Option.some Jvm.ClassFile.FieldType.boolean)).before args0 about1 = true := code_word (m := ⟨2, 1⟩) (meth := k2m1) (c := k2c1) (by decide +kernel) rfl rfl rfl (by decide +kernel)
set_option maxRecDepth 65536 in
theorem w_c2 : (Jvm.Cond.code ({ cls := "com/example/einzug/einzug/rules/XmlCharactersIsSpacePinLaw", name := "pickSpace", desc := "(I)I" } : Jvm.MethodName) method_2_code (2 : Nat) (Option.some Jvm.ClassFile.FieldType.int)).before args0 about1 = true := code_word (m := ⟨1, 1⟩) (meth := k1m1) (c := k1c1) (by decide +kernel) rfl rfl rfl (by decide +kernel)
def codes1 : List Jvm.Cond := [Jvm.Cond.code x code maxLocals ret, Jvm.Cond.code ({ cls := "com/example/einzug/einzug/rules/XmlCharacters", name := "isSpace", desc := "(I)Z" } : Jvm.MethodName) prog_199_method_2_code (1 : Nat) (Option.some Jvm.ClassFile.FieldType.boolean), Jvm.Cond.code ({ cls := "com/example/einzug/einzug/rules/XmlCharactersIsSpacePinLaw", name := "pickSpace", desc := "(I)I" } : Jvm.MethodName) method_2_code (2 : Nat) (Option.some Jvm.ClassFile.FieldType.int)]
set_option maxRecDepth 65536 in
theorem codes_eq : words1.filter isCode = codes1 := rfl
theorem w_codes : ∀ c ∈ words1.filter isCode, c.before args0 about1 = true := by
  rw [codes_eq]
  intro c hc
  simp only [codes1, List.mem_cons, List.not_mem_nil, or_false] at hc
  rcases hc with rfl | rfl | rfl
  · exact w_c0
  · exact w_c1
  · exact w_c2
set_option maxRecDepth 65536 in
theorem w_t1 : words1.all (fun c => isCode c || c.before args0 about1) = true := by decide +kernel
theorem w_tables : (allAtoms (Jvm.Cond.code x code maxLocals ret :: tables_1)).before args0 about1 = true := by
  rw [allAtoms_all]
  show words1.all (fun c => c.before args0 about1) = true
  refine all_split ?_ w_codes
  rw [w_t1]
set_option maxRecDepth 65536 in
theorem w_case : (Jvm.Cond.and given_1 narrow_1).before args0 about1 = true := by decide +kernel
theorem w_applies : (headSpec (Jvm.Cond.code x code maxLocals ret :: tables_1) room_1).applies x e0.platform about1 = true :=
  (Spec.applies_iff w_frames).mpr ⟨w_running, w_runnable, w_alone, w_named, w_hears, w_ripe, w_room, w_tables⟩
theorem atStart : AtStart classFile x code maxLocals ret World_1 tables_1 room_1 Calls_1 rest_1 Pre_1 launch0 p0 e0 about1 theMethod args0 below0 :=
  ⟨lists_1, trivial, launch0.admits_env _ _ _, launch0.least_env, fairChoices_fair.cas, fairChoices_fair.clock, w_frames, w_args, w_heap, w_applies, trivial, trivial, w_case⟩
end start1
theorem witness_1 : WitnessClaimed_1 := ⟨start1.p0, start1.e0, start1.about1, start1.theMethod, start1.args0, start1.below0, start1.atStart⟩
end Jvm.Pilot.@@N@@
