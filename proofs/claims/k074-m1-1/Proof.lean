import JvmDerived
import JvmDerived.Pilot.@@N@@Statement
import JvmDerived.Pilot.@@N@@Code
set_option linter.unusedVariables false
set_option linter.unusedSimpArgs false
namespace Jvm.RoadKit
open Sem ClassFile Op Lib Jvm.Stand Jvm.Free Jvm.LawKit
/-- an array whose list is said fits its class -/
theorem own_fitc {Z : State} {h : Heap} {a : Addr} {c : Cell} {ty : FieldType} {vs : List Value} {dv : Value} (A : Arr Z h a c ty) (H : Has c vs dv) (G : ∀ i, i < c.slots.size → fits ty (vs.getD i dv) = true) : FitC Z c := fun i v hv => by
  have hi := (Array.getElem?_eq_some_iff.mp hv).1
  have e1 := H i hi
  rw [hv] at e1; cases e1
  obtain ⟨-, k, hk, comp, hkind⟩ := A.2.1
  have e2 : Z.slotType? c.cls .none i = some ty := by simp [State.slotType?, hk, hkind]
  unfold State.fitsSlot; rw [e2]; exact G i hi
end Jvm.RoadKit
namespace Jvm.RoadKit
open Sem ClassFile Op Lib Jvm.Stand Jvm.Free Jvm.LawKit
section New
variable {p : Program} {l : Launch} {e : Env} {R : Room} {s : State} {m : MethodId} {args : Array Value} {below : List Frame} {meth : Method} {c : Code} {T : State} {locs : List Loc} {cells slots : Nat}
theorem retI (X : Stand p l e R s m args below meth c T locs cells slots) (hx : p.tables.exec = Jvm.exec) {pc : Nat} {Ls : Array Slot} {z : Int32} {rest : List Value} (hret : meth.sig.returnType = some .int) (hd : decode c.code pc = .ok (.ireturn, 1)) {fs : List Frame}
    (hl : ∀ (f : JFrame) (acts : List Action), f.method = m → f.locked = none → f.entered = [] → (doReturn e (T.setTop f) acts (some (.int z))).1 = T.setFrames fs) : Steps p.tables e below (T.setTop (mkF m pc Ls (.int z :: rest))) (T.setFrames fs) := by
  have hm' : T.vm.method? m = some meth := X.method'
  have hn : narrow .int (.int z) = .int z := rfl
  show Steps p.tables e below (T.setTop { method := m, pc := pc, locals := Ls, stack := _ :: rest, locked := none }) _
  jvm_step X.here [X.here.top, hx, hd, hm', hret, hn]
  first | (intro acts; rw [hl _ acts rfl rfl rfl]) | rw [hl _ _ rfl rfl rfl]
  exact Steps.refl _
theorem own_retJ (X : Stand p l e R s m args below meth c T locs cells slots) (hx : p.tables.exec = Jvm.exec) {pc : Nat} {Ls : Array Slot} {z : Int64} {rest : List Value} (hret : meth.sig.returnType = some .long) (hd : decode c.code pc = .ok (.lreturn, 1)) {fs : List Frame}
    (hl : ∀ (f : JFrame) (acts : List Action), f.method = m → f.locked = none → f.entered = [] → (doReturn e (T.setTop f) acts (some (.long z))).1 = T.setFrames fs) : Steps p.tables e below (T.setTop (mkF m pc Ls (.long z :: rest))) (T.setFrames fs) := by
  have hm' : T.vm.method? m = some meth := X.method'
  show Steps p.tables e below (T.setTop { method := m, pc := pc, locals := Ls, stack := _ :: rest, locked := none }) _
  jvm_step X.here [X.here.top, hx, hd, hm', hret, narrow]
  first | (intro acts; rw [hl _ acts rfl rfl rfl]) | rw [hl _ _ rfl rfl rfl]
  exact Steps.refl _
theorem own_retR (X : Stand p l e R s m args below meth c T locs cells slots) (hx : p.tables.exec = Jvm.exec) {pc : Nat} {Ls : Array Slot} {z : Value} (hz : z.isRef = true) {rest : List Value} {t : FieldType} (hret : meth.sig.returnType = some t) (ht : t.isReference = true) (hd : decode c.code pc = .ok (.areturn, 1)) {fs : List Frame}
    (hl : ∀ (f : JFrame) (acts : List Action), f.method = m → f.locked = none → f.entered = [] → (doReturn e (T.setTop f) acts (some z)).1 = T.setFrames fs) : Steps p.tables e below (T.setTop (mkF m pc Ls (z :: rest))) (T.setFrames fs) := by
  have hm' : T.vm.method? m = some meth := X.method'
  show Steps p.tables e below (T.setTop { method := m, pc := pc, locals := Ls, stack := _ :: rest, locked := none }) _
  rcases ref_cases hz with rfl | ⟨a, rfl⟩ <;> cases t <;> first
    | (simp [FieldType.isReference] at ht; done)
    | (jvm_step X.here [X.here.top, hx, hd, hm', hret, Value.isRef, FieldType.isReference]
       first | (intro acts; rw [hl _ acts rfl rfl rfl]) | rw [hl _ _ rfl rfl rfl]
       exact Steps.refl _)
/-- the walk goes on: from this frame the body comes to an end at which P holds -/
def own_G (tb : Tables) (e : Env) (below : List Frame) (T : State) (f : JFrame) (P : State → Outcome → Prop) : Prop := ∃ s₂ o, Steps tb e below (T.setTop f) s₂ ∧ P s₂ o
def own_P (below : List Frame) (s : State) (Q : Option Value → Heap → List Loc → Prop) (ck kk : Nat) : State → Outcome → Prop := fun s₂ o => s₂.status = .running ∧ Ended s₂ below o ∧ ∃ v L, o = .returned v ∧ Q v s₂.heap L ∧ FrameEnd s o s₂ L ck kk
theorem own_go {tb : Tables} {e : Env} {below : List Frame} {T T' : State} {f f' : JFrame} {P : State → Outcome → Prop} (h : ∀ t, Steps tb e below (T'.setTop f') t → Steps tb e below (T.setTop f) t) (g : own_G tb e below T' f' P) : own_G tb e below T f P := by
  obtain ⟨a, o, h1, h2⟩ := g; exact ⟨a, o, h a h1, h2⟩
theorem own_end (X : Stand p l e R s m args below meth c T locs cells slots) (hlocks : meth.locks = false) {v : Option Value} (hv : meth.sig.returnType = none → v = none) {f : JFrame}
    (hret : ∀ fs, (∀ (f : JFrame) (acts : List Action), f.method = m → f.locked = none → f.entered = [] → (doReturn e (T.setTop f) acts v).1 = T.setFrames fs) → Steps p.tables e below (T.setTop f) (T.setFrames fs))
    {Q : Option Value → Heap → List Loc → Prop} {h : Heap} (eT : T.heap = h) (hQ : Q v h locs) {ck kk : Nat} (hc : cells ≤ ck) (hk : slots ≤ kk) : own_G p.tables e below T f (own_P below s Q ck kk) := by
  obtain ⟨fs, hr, hrun, hended, hW, hsame⟩ := X.leave (v := v) hv hlocks
  subst eT
  exact ⟨_, _, hret fs hr, hrun, hended, _, _, rfl, hQ, ⟨_, rfl⟩, hW, hsame.mono hc hk⟩
theorem own_top {tb : Tables} {e : Env} {below : List Frame} {T : State} {f f' : JFrame} {s : State} {Q : Option Value → Heap → List Loc → Prop} {ck kk : Nat} (ef : f = f') (g : own_G tb e below T f' (own_P below s Q ck kk)) :
    ∃ s₂ o, Steps tb e below (T.setTop f) s₂ ∧ s₂.status = .running ∧ Ended s₂ below o ∧ ∃ v L, o = .returned v ∧ Q v s₂.heap L ∧ FrameEnd s o s₂ L ck kk := by
  subst ef; exact g
theorem own_sk {Z : State} {h h' : Heap} {C n d : String} {v : Value} {ws : List Addr} (F : Sta Z h C n d v) (K : Keep h h' ws) (q : ∀ x ∈ ws, ∀ c : Cell, h[x]? = some c → c.vm.isStatics = false) : Sta Z h' C n d v := by
  obtain ⟨cf, i, k, f, st, cell, h1, h2, h3, h4, h5, h6, h7⟩ := F
  exact ⟨cf, i, k, f, st, cell, h1, h2, h3, h4, K.2.1 st cell h5 (fun hm => by have := q st hm cell h5; rw [h6] at this; cases this), h6, h7⟩
theorem own_ak {Z : State} {h h' : Heap} {a : Addr} {c : Cell} {ty : FieldType} (A : Arr Z h a c ty) (K : Keep h h' []) : Arr Z h' a c ty := ⟨K.2.1 a c A.1 List.not_mem_nil, A.2⟩
theorem own_akn {Z : State} {h h' : Heap} {a : Addr} {c : Cell} {ty : FieldType} {ws : List Addr} (A : Arr Z h a c ty) (K : Keep h h' ws) (q : a ∉ ws) : Arr Z h' a c ty := ⟨K.2.1 a c A.1 q, A.2⟩
theorem own_plv {Z : State} {h : Heap} {a : Addr} {k : ClassId} {ty : FieldType} {n : Int32} {vs : List Value} {d : Value} (A : Arv Z h a k ty n vs d) : ∀ c : Cell, h[a]? = some c → c.vm.isStatics = false := fun c hc => by
  obtain ⟨cl, A, -⟩ := A; have := A.1; rw [this] at hc; cases hc; exact A.plain
theorem own_pl {Z : State} {h : Heap} {a : Addr} {C : String} (E : Exa Z h a C) : ∀ c : Cell, h[a]? = some c → c.vm.isStatics = false := fun c hc => by
  obtain ⟨cell, k, h1, _, _, h4, _⟩ := E; rw [h1] at hc; cases hc; exact h4
theorem own_pl1 {h : Heap} {a : Addr} (q : ∀ c : Cell, h[a]? = some c → c.vm.isStatics = false) : ∀ x ∈ [a], ∀ c : Cell, h[x]? = some c → c.vm.isStatics = false := fun x hx => by
  cases List.mem_singleton.mp hx; exact q
end New
end Jvm.RoadKit
namespace Jvm.Pilot.@@N@@
open Jvm Jvm.ClassFile Sem Op Lib Jvm.Free Jvm.Stand Jvm.LawKit Jvm.RoadKit Bundle Jvm.Pilot.@@N@@.Jvm.D
theorem own_pd0 : parseMethodDescriptor "(J)I" = some ⟨[.long], some .int⟩ := by decide +kernel
theorem own_pd1 : parseMethodDescriptor "(IJJ)[J" = some ⟨[.int, .long, .long], some (.array .long)⟩ := by decide +kernel
theorem own_pd2 : parseMethodDescriptor "(I[J)V" = some ⟨[.int, (.array .long)], none⟩ := by decide +kernel
theorem own_pd3 : parseMethodDescriptor "(Lcom/example/klearance/klearance/SecurityLabel;)Z" = some ⟨[(.object "com/example/klearance/klearance/SecurityLabel")], some .boolean⟩ := by decide +kernel
theorem own_pn0 : plainName "com/example/klearance/klearance/SecurityLabelDominatesPinLaw" = true := by first | (simp [plainName, overriddenIn]; done) | decide +kernel
theorem own_pn1 : plainName "com/example/klearance/klearance/SecurityLabel" = true := by first | (simp [plainName, overriddenIn]; done) | decide +kernel

def own_lenOf (p : Int64) : Int32 := ((p.toUInt64 >>> ((32 : Int32) &&& 0x3f).toInt64.toUInt64).toInt64 - (p.toUInt64 >>> ((32 : Int32) &&& 0x3f).toInt64.toUInt64).toInt64 / (3 : Int64) * (3 : Int64)).toInt32
theorem own_lens (p : Int64) : own_lenOf p = 0 ∨ own_lenOf p = 1 ∨ own_lenOf p = 2 := by
  have q := c_lushr p 32 32 (by decide) (by decide)
  have r := rng64 p
  unfold own_lenOf
  generalize (p.toUInt64 >>> ((32 : Int32) &&& 0x3f).toInt64.toUInt64).toInt64 = x at q ⊢
  have hx : 0 ≤ x.toInt := by rw [q]; omega
  have t := (c_lrem x 3 3 rfl).1 hx
  generalize x - x / (3 : Int64) * (3 : Int64) = y at t ⊢
  have u := c_l2i y
  have v := rng32 y.toInt32
  have w : y.toInt32.toInt = 0 ∨ y.toInt32.toInt = 1 ∨ y.toInt32.toInt = 2 := by omega
  have h : ∀ n : Int32, y.toInt32.toInt = n.toInt → y.toInt32 = n := fun n hn => Int32.toInt_inj.mp hn
  rcases w with w | w | w
  · exact Or.inl (h 0 w)
  · exact Or.inr (Or.inl (h 1 w))
  · exact Or.inr (Or.inr (h 2 w))
def own_cats (n : Int32) (x y : Int64) : List Value := if n = 0 then [] else if n = 1 then [.long x] else [.long x, .long y]
def own_e0 (n : Int32) (x : Int64) : Int64 := if 0 < n then x else 0
def own_e1 (n : Int32) (x : Int64) : Int64 := if 1 < n then x else 0
theorem own_e0_0 (x : Int64) : own_e0 0 x = 0 := by simp [own_e0]
theorem own_e0_1 (x : Int64) : own_e0 1 x = x := by simp [own_e0]
theorem own_e0_2 (x : Int64) : own_e0 2 x = x := by simp [own_e0]
theorem own_e1_0 (x : Int64) : own_e1 0 x = 0 := by simp [own_e1]
theorem own_e1_1 (x : Int64) : own_e1 1 x = 0 := by simp [own_e1]
theorem own_e1_2 (x : Int64) : own_e1 2 x = x := by simp [own_e1]
theorem own_c0 (x y : Int64) : own_cats 0 x y = [] := by simp [own_cats]
theorem own_c1 (x y : Int64) : own_cats 1 x y = [.long x] := by simp [own_cats]
theorem own_c2 (x y : Int64) : own_cats 2 x y = [.long x, .long y] := by simp [own_cats]
def own_dom (la lb : Int32) (a0 a1 b0 b1 : Int64) : Int32 := if la < lb then 0 else if (b0 &&& (a0 ^^^ (-1 : Int64))) = 0 then (if (b1 &&& (a1 ^^^ (-1 : Int64))) = 0 then 1 else 0) else 0
theorem own_z (x : Int64) : ((0 : Int64) &&& x) = 0 := by
  apply Int64.toBitVec_inj.mp; rw [Int64.toBitVec_and]; simp
theorem own_sub (a b : Int64) : (a ||| b) = a ↔ (b &&& (a ^^^ (-1 : Int64))) = 0 := by
  rw [← Int64.toBitVec_inj, ← Int64.toBitVec_inj, Int64.toBitVec_or, Int64.toBitVec_and, Int64.toBitVec_xor]
  have e1 : (-1 : Int64).toBitVec = BitVec.allOnes 64 := rfl
  have e0 : (0 : Int64).toBitVec = 0#64 := rfl
  rw [e1, e0, BitVec.xor_allOnes]
  constructor
  · intro h
    apply BitVec.eq_of_getLsbD_eq; intro i hi
    have := congrArg (fun z => z.getLsbD i) h
    simp only [BitVec.getLsbD_or] at this
    simp only [BitVec.getLsbD_and, BitVec.getLsbD_not, BitVec.getLsbD_zero, hi, decide_true, Bool.true_and]
    revert this; cases a.toBitVec.getLsbD i <;> cases b.toBitVec.getLsbD i <;> simp
  · intro h
    apply BitVec.eq_of_getLsbD_eq; intro i hi
    have := congrArg (fun z => z.getLsbD i) h
    simp only [BitVec.getLsbD_and, BitVec.getLsbD_not, BitVec.getLsbD_zero, hi, decide_true, Bool.true_and] at this
    simp only [BitVec.getLsbD_or]
    revert this; cases a.toBitVec.getLsbD i <;> cases b.toBitVec.getLsbD i <;> simp

theorem d1_0 : decode method_2_code 0 = .ok (.lload_n 0, 1) := by decide +kernel
theorem d1_1 : decode method_2_code 1 = .ok (.bipush 32, 2) := by decide +kernel
theorem d1_3 : decode method_2_code 3 = .ok (.lushr, 1) := by decide +kernel
theorem d1_4 : decode method_2_code 4 = .ok (.ldc2_w 7, 3) := by decide +kernel
theorem d1_7 : decode method_2_code 7 = .ok (.lrem, 1) := by decide +kernel
theorem d1_8 : decode method_2_code 8 = .ok (.l2i, 1) := by decide +kernel
theorem d1_9 : decode method_2_code 9 = .ok (.ireturn, 1) := by decide +kernel
theorem ef_1 (m : MethodId) (q1 : Int64) : entryFrame m #[(.long q1)] 2 = mkF m 0 #[.val (.long q1), .second] [] := by first | (simp [entryFrame, mkF, argsToLocals, Value.category]; done) | rfl
def Q1 (Z : State) (q1 : Int64)  (h0 : Heap) (n0 : Nat) (v : Option Value) (h : Heap) (L : List Loc) : Prop := v = some (.int (own_lenOf q1)) ∧ Fr n0 L ∧ h = h0
set_option maxRecDepth 65536 in
set_option maxHeartbeats 40000000 in
theorem rm1 (l : Launch) (Z : State) (a0 : Array Value) (hw : ∀ d ∈ tables_1, d.before a0 Z = true) (ws : List Jvm.Cond) (q1 : Int64)  (h0 : Heap) (n0 : Nat) (Z0 : n0 ≤ h0.size) :
    MetFree l (⟨"com/example/klearance/klearance/SecurityLabelDominatesPinLaw", "lenOf", "(J)I"⟩ : MethodName) (head1 (Jvm.Cond.code (⟨"com/example/klearance/klearance/SecurityLabelDominatesPinLaw", "lenOf", "(J)I"⟩ : MethodName) method_2_code 2 (some .int) :: ws) ({ frames := 0, cells := 0, slots := 0, locals := 0 } : Room)) (fun a U => a = #[(.long q1)] ∧ Z.Warmed39 U.vm ∧ U.heap = h0) (fun _ _ _ _ _ => True) (fun _ U o U' => ∃ v L, o = .returned v ∧ Q1 Z q1 h0 n0 v U'.heap L ∧ FrameEnd U o U' L ({ frames := 0, cells := 0, slots := 0, locals := 0 } : Room).cells ({ frames := 0, cells := 0, slots := 0, locals := 0 } : Room).slots) := by
  refine MetFree.of_bodySF (plainFor_of_name own_pn0) hisR ?_
  intro p e s m args below meth c s₁ Bd hml0 hP hK
  obtain ⟨rfl, hZ, hh⟩ := hP
  have hx := Bd.exec
  have hby := Bd.bytes
  have hml : c.maxLocals = 2 := hml0
  have hown : s.vm.findClass "com/example/klearance/klearance/SecurityLabelDominatesPinLaw" = some m.cls := findClass_of_methodNamed Bd.named
  have hnm := (name_of_methodNamed Bd.named Bd.method).1
  have X0 : Stand p l e ({ frames := 0, cells := 0, slots := 0, locals := 0 } : Room) s m #[(.long q1)] below meth c s₁ [] 0 0 := Stand.of_body Bd
  have e0 : s₁.heap = h0 := by rw [← hh, Bd.state]; rfl
  have N0 := Fr.nil n0
  refine own_top (Q := Q1 Z q1 h0 n0) (ef_1 m q1) ?_
  show own_G p.tables e below s₁ (mkF m 0 #[.val (.long q1), .second] []) _
  refine own_go (fun t_ k_ => XS.lloadN X0.here hx rfl (hb hby d1_0) rfl k_) ?_
  show own_G p.tables e below s₁ (mkF m 1 #[.val (.long q1), .second] [(.long q1)]) _
  refine own_go (fun t_ k_ => XS.bipush X0.here hx rfl (hb hby d1_1) k_) ?_
  show own_G p.tables e below s₁ (mkF m 3 #[.val (.long q1), .second] [(.int (32 : Int32)), (.long q1)]) _
  refine own_go (fun t_ k_ => XS.lushr X0.here hx rfl (hb hby d1_3) rfl k_) ?_
  show own_G p.tables e below s₁ (mkF m 4 #[.val (.long q1), .second] [(.long ((q1.toUInt64 >>> ((32 : Int32) &&& 0x3f).toInt64.toUInt64).toInt64))]) _
  refine own_go (fun t_ k_ => X0.ldc2Long hx hown (mvT hZ (hw _ (List.mem_of_getElem? (i := 4) rfl))) (g := (mkF m 4 #[.val (.long q1), .second] [(.long ((q1.toUInt64 >>> ((32 : Int32) &&& 0x3f).toInt64.toUInt64).toInt64))])) rfl (hb hby d1_4) _ k_) ?_
  show own_G p.tables e below s₁ (mkF m 7 #[.val (.long q1), .second] [(.long (3 : Int64)), (.long ((q1.toUInt64 >>> ((32 : Int32) &&& 0x3f).toInt64.toUInt64).toInt64))]) _
  refine own_go (fun t_ k_ => XS.lrem X0.here hx rfl (hb hby d1_7) rfl (by decide) k_) ?_
  show own_G p.tables e below s₁ (mkF m 8 #[.val (.long q1), .second] [(.long (((q1.toUInt64 >>> ((32 : Int32) &&& 0x3f).toInt64.toUInt64).toInt64) - (((q1.toUInt64 >>> ((32 : Int32) &&& 0x3f).toInt64.toUInt64).toInt64) / (3 : Int64)) * (3 : Int64)))]) _
  refine own_go (fun t_ k_ => XS.l2i X0.here hx rfl (hb hby d1_8) rfl k_) ?_
  show own_G p.tables e below s₁ (mkF m 9 #[.val (.long q1), .second] [(.int ((((q1.toUInt64 >>> ((32 : Int32) &&& 0x3f).toInt64.toUInt64).toInt64) - (((q1.toUInt64 >>> ((32 : Int32) &&& 0x3f).toInt64.toUInt64).toInt64) / (3 : Int64)) * (3 : Int64)).toInt32))]) _
  exact own_end (v := some (.int ((((q1.toUInt64 >>> ((32 : Int32) &&& 0x3f).toInt64.toUInt64).toInt64) - (((q1.toUInt64 >>> ((32 : Int32) &&& 0x3f).toInt64.toUInt64).toInt64) / (3 : Int64)) * (3 : Int64)).toInt32))) X0 Bd.notSynchronized (fun h => by rw [Bd.returns] at h; cases h) (fun fs hr => retI X0 hx Bd.returns (hb hby d1_9) hr) e0 ⟨rfl, N0, rfl⟩ (by decide) (by decide)
theorem d2_0 : decode method_3_code 0 = .ok (.iload_n 0, 1) := by decide +kernel
theorem d2_1 : decode method_3_code 1 = .ok (.newarray .long, 2) := by decide +kernel
theorem d2_3 : decode method_3_code 3 = .ok (.astore 5, 2) := by decide +kernel
theorem d2_5 : decode method_3_code 5 = .ok (.iload_n 0, 1) := by decide +kernel
theorem d2_6 : decode method_3_code 6 = .ok (.ifCond .le 8, 3) := by decide +kernel
theorem d2_9 : decode method_3_code 9 = .ok (.aload 5, 2) := by decide +kernel
theorem d2_11 : decode method_3_code 11 = .ok (.iconst 0, 1) := by decide +kernel
theorem d2_12 : decode method_3_code 12 = .ok (.lload_n 1, 1) := by decide +kernel
theorem d2_13 : decode method_3_code 13 = .ok (.lastore, 1) := by decide +kernel
theorem d2_14 : decode method_3_code 14 = .ok (.iload_n 0, 1) := by decide +kernel
theorem d2_15 : decode method_3_code 15 = .ok (.iconst 1, 1) := by decide +kernel
theorem d2_16 : decode method_3_code 16 = .ok (.if_icmp .le 8, 3) := by decide +kernel
theorem d2_19 : decode method_3_code 19 = .ok (.aload 5, 2) := by decide +kernel
theorem d2_21 : decode method_3_code 21 = .ok (.iconst 1, 1) := by decide +kernel
theorem d2_22 : decode method_3_code 22 = .ok (.lload_n 3, 1) := by decide +kernel
theorem d2_23 : decode method_3_code 23 = .ok (.lastore, 1) := by decide +kernel
theorem d2_24 : decode method_3_code 24 = .ok (.aload 5, 2) := by decide +kernel
theorem d2_26 : decode method_3_code 26 = .ok (.areturn, 1) := by decide +kernel
theorem ef_2 (m : MethodId) (p1 : Int32) (x : Int64) (y : Int64) : entryFrame m #[(.int p1), (.long x), (.long y)] 6 = mkF m 0 #[.val (.int p1), .val (.long x), .second, .val (.long y), .second, .unset] [] := by first | (simp [entryFrame, mkF, argsToLocals, Value.category]; done) | rfl
def Q2 (Z : State) (p1 : Int32) (x : Int64) (y : Int64)  (h0 : Heap) (n0 : Nat) (v : Option Value) (h : Heap) (L : List Loc) : Prop := ∃ (t : Addr) (k : ClassId), v = some (.ref t) ∧ Fr n0 L ∧ Keep h0 h [] ∧ n0 ≤ t ∧ h0.size ≤ t ∧ Exa Z h t "[J" ∧ Arv Z h t k .long p1 (own_cats p1 x y) (.long (0 : Int64))
set_option maxRecDepth 65536 in
set_option maxHeartbeats 40000000 in
theorem rm2 (l : Launch) (Z : State) (a0 : Array Value) (hw : ∀ d ∈ tables_1, d.before a0 Z = true) (ws : List Jvm.Cond) (p1 : Int32) (x : Int64) (y : Int64)  (h0 : Heap) (n0 : Nat) (Z0 : n0 ≤ h0.size) (hp : p1 = 0 ∨ p1 = 1 ∨ p1 = 2) :
    MetFree l (⟨"com/example/klearance/klearance/SecurityLabelDominatesPinLaw", "cats", "(IJJ)[J"⟩ : MethodName) (head1 (Jvm.Cond.code (⟨"com/example/klearance/klearance/SecurityLabelDominatesPinLaw", "cats", "(IJJ)[J"⟩ : MethodName) method_3_code 6 (some (.array .long)) :: ws) ({ frames := 0, cells := 1, slots := 2, locals := 0 } : Room)) (fun a U => a = #[(.int p1), (.long x), (.long y)] ∧ Z.Warmed39 U.vm ∧ U.heap = h0) (fun _ _ _ _ _ => True) (fun _ U o U' => ∃ v L, o = .returned v ∧ Q2 Z p1 x y h0 n0 v U'.heap L ∧ FrameEnd U o U' L ({ frames := 0, cells := 1, slots := 2, locals := 0 } : Room).cells ({ frames := 0, cells := 1, slots := 2, locals := 0 } : Room).slots) := by
  refine MetFree.of_bodySF (plainFor_of_name own_pn0) hisR ?_
  intro p e s m args below meth c s₁ Bd hml0 hP hK
  obtain ⟨rfl, hZ, hh⟩ := hP
  have hx := Bd.exec
  have hby := Bd.bytes
  have hml : c.maxLocals = 6 := hml0
  have hown : s.vm.findClass "com/example/klearance/klearance/SecurityLabelDominatesPinLaw" = some m.cls := findClass_of_methodNamed Bd.named
  have hnm := (name_of_methodNamed Bd.named Bd.method).1
  have X0 : Stand p l e ({ frames := 0, cells := 1, slots := 2, locals := 0 } : Room) s m #[(.int p1), (.long x), (.long y)] below meth c s₁ [] 0 0 := Stand.of_body Bd
  have e0 : s₁.heap = h0 := by rw [← hh, Bd.state]; rfl
  have N0 := Fr.nil n0
  refine own_top (Q := Q2 Z p1 x y h0 n0) (ef_2 m p1 x y) ?_
  rcases hp with rfl | rfl | rfl
  · skip
    show own_G p.tables e below s₁ (mkF m 0 #[.val (.int (0 : Int32)), .val (.long x), .second, .val (.long y), .second, .unset] []) _
    refine own_go (fun t_ k_ => XS.iloadN X0.here hx rfl (hb hby d2_0) rfl k_) ?_
    show own_G p.tables e below s₁ (mkF m 1 #[.val (.int (0 : Int32)), .val (.long x), .second, .val (.long y), .second, .unset] [(.int (0 : Int32))]) _
    obtain ⟨T1, h1, k1, X1, e1, E1, A1, Ex1, st1⟩ := newPE X0 hx hZ (aty := .long) (hw _ (List.mem_of_getElem? (i := 11) rfl)) e0 (g := (mkF m 1 #[.val (.int (0 : Int32)), .val (.long x), .second, .val (.long y), .second, .unset] [(.int (0 : Int32))])) rfl (hb hby d2_1) rfl (by decide) (cap := 2) (by decide) (by decide) (by decide) (by decide) (ad := "[J") (by decide +kernel)
    obtain ⟨b1, g1⟩ : ∃ z, z = h0.size := ⟨_, rfl⟩
    rw [← g1] at A1 Ex1 st1
    have ge_b1 : n0 ≤ b1 := Nat.le_trans Z0 (Nat.le_of_eq g1.symm)
    have sz_b1 : h0.size ≤ b1 := Nat.le_trans (Keep.refl h0 []).1 (Nat.le_of_eq g1.symm)
    have V1 : Arv Z h1 b1 k1 .long (0 : Int32) [] (.long (0 : Int64)) := (Arv.new A1 (by decide)).pad (pad_rep [] (.long (0 : Int64)) 0)
    refine own_go st1 ?_
    show own_G p.tables e below T1 (mkF m 3 #[.val (.int (0 : Int32)), .val (.long x), .second, .val (.long y), .second, .unset] [(.ref b1)]) _
    refine own_go (fun t_ k_ => XS.astore X1.here hx rfl (hb hby d2_3) rfl rfl (l' := #[.val (.int (0 : Int32)), .val (.long x), .second, .val (.long y), .second, .val (.ref b1)]) rfl k_) ?_
    show own_G p.tables e below T1 (mkF m 5 #[.val (.int (0 : Int32)), .val (.long x), .second, .val (.long y), .second, .val (.ref b1)] []) _
    refine own_go (fun t_ k_ => XS.iloadN X1.here hx rfl (hb hby d2_5) rfl k_) ?_
    show own_G p.tables e below T1 (mkF m 6 #[.val (.int (0 : Int32)), .val (.long x), .second, .val (.long y), .second, .val (.ref b1)] [(.int (0 : Int32))]) _
    refine own_go (fun t_ k_ => XS.ifYes X1.here hx rfl (pc0 := 6) (pc' := 14) rfl (hb hby d2_6) rfl ((if0 _ _).trans (flt (by decide : ¬ ((0 : Int32) < (0 : Int32)))).2.2.2) (by decide) (by decide) k_) ?_
    show own_G p.tables e below T1 (mkF m 14 #[.val (.int (0 : Int32)), .val (.long x), .second, .val (.long y), .second, .val (.ref b1)] []) _
    refine own_go (fun t_ k_ => XS.iloadN X1.here hx rfl (hb hby d2_14) rfl k_) ?_
    show own_G p.tables e below T1 (mkF m 15 #[.val (.int (0 : Int32)), .val (.long x), .second, .val (.long y), .second, .val (.ref b1)] [(.int (0 : Int32))]) _
    refine own_go (fun t_ k_ => XS.iconst X1.here hx rfl (hb hby d2_15) k_) ?_
    show own_G p.tables e below T1 (mkF m 16 #[.val (.int (0 : Int32)), .val (.long x), .second, .val (.long y), .second, .val (.ref b1)] [(.int (1 : Int32)), (.int (0 : Int32))]) _
    refine own_go (fun t_ k_ => XS.icmpYes X1.here hx rfl (pc0 := 16) (pc' := 24) rfl (hb hby d2_16) rfl (flt (by decide : ¬ ((1 : Int32) < (0 : Int32)))).2.2.2 (by decide) (by decide) k_) ?_
    show own_G p.tables e below T1 (mkF m 24 #[.val (.int (0 : Int32)), .val (.long x), .second, .val (.long y), .second, .val (.ref b1)] []) _
    refine own_go (fun t_ k_ => XS.aload X1.here hx rfl (hb hby d2_24) rfl rfl k_) ?_
    show own_G p.tables e below T1 (mkF m 26 #[.val (.int (0 : Int32)), .val (.long x), .second, .val (.long y), .second, .val (.ref b1)] [(.ref b1)]) _
    have f2 : Keep h0 h1 [] := ((Keep.refl h0 []).ext E1)
    exact own_end (v := some (.ref b1)) X1 Bd.notSynchronized (fun h => by rw [Bd.returns] at h; cases h) (fun fs hr => own_retR X1 hx rfl Bd.returns rfl (hb hby d2_26) hr) e1 ⟨_, _, rfl, N0, f2, ge_b1, sz_b1, Ex1, (by rw [own_c0]; exact V1)⟩ (by decide) (by decide)
  · skip
    show own_G p.tables e below s₁ (mkF m 0 #[.val (.int (1 : Int32)), .val (.long x), .second, .val (.long y), .second, .unset] []) _
    refine own_go (fun t_ k_ => XS.iloadN X0.here hx rfl (hb hby d2_0) rfl k_) ?_
    show own_G p.tables e below s₁ (mkF m 1 #[.val (.int (1 : Int32)), .val (.long x), .second, .val (.long y), .second, .unset] [(.int (1 : Int32))]) _
    obtain ⟨T3, h3, k3, X3, e3, E3, A3, Ex3, st3⟩ := newPE X0 hx hZ (aty := .long) (hw _ (List.mem_of_getElem? (i := 11) rfl)) e0 (g := (mkF m 1 #[.val (.int (1 : Int32)), .val (.long x), .second, .val (.long y), .second, .unset] [(.int (1 : Int32))])) rfl (hb hby d2_1) rfl (by decide) (cap := 2) (by decide) (by decide) (by decide) (by decide) (ad := "[J") (by decide +kernel)
    obtain ⟨b3, g3⟩ : ∃ z, z = h0.size := ⟨_, rfl⟩
    rw [← g3] at A3 Ex3 st3
    have ge_b3 : n0 ≤ b3 := Nat.le_trans Z0 (Nat.le_of_eq g3.symm)
    have sz_b3 : h0.size ≤ b3 := Nat.le_trans (Keep.refl h0 []).1 (Nat.le_of_eq g3.symm)
    have V3 : Arv Z h3 b3 k3 .long (1 : Int32) [(.long (0 : Int64))] (.long (0 : Int64)) := (Arv.new A3 (by decide)).pad (pad_rep [] (.long (0 : Int64)) 1)
    refine own_go st3 ?_
    show own_G p.tables e below T3 (mkF m 3 #[.val (.int (1 : Int32)), .val (.long x), .second, .val (.long y), .second, .unset] [(.ref b3)]) _
    refine own_go (fun t_ k_ => XS.astore X3.here hx rfl (hb hby d2_3) rfl rfl (l' := #[.val (.int (1 : Int32)), .val (.long x), .second, .val (.long y), .second, .val (.ref b3)]) rfl k_) ?_
    show own_G p.tables e below T3 (mkF m 5 #[.val (.int (1 : Int32)), .val (.long x), .second, .val (.long y), .second, .val (.ref b3)] []) _
    refine own_go (fun t_ k_ => XS.iloadN X3.here hx rfl (hb hby d2_5) rfl k_) ?_
    show own_G p.tables e below T3 (mkF m 6 #[.val (.int (1 : Int32)), .val (.long x), .second, .val (.long y), .second, .val (.ref b3)] [(.int (1 : Int32))]) _
    refine own_go (fun t_ k_ => XS.ifNo X3.here hx rfl (hb hby d2_6) rfl ((if0 _ _).trans (tlt (by decide : ((0 : Int32) < (1 : Int32)))).2.2.2) k_) ?_
    show own_G p.tables e below T3 (mkF m 9 #[.val (.int (1 : Int32)), .val (.long x), .second, .val (.long y), .second, .val (.ref b3)] []) _
    refine own_go (fun t_ k_ => XS.aload X3.here hx rfl (hb hby d2_9) rfl rfl k_) ?_
    show own_G p.tables e below T3 (mkF m 11 #[.val (.int (1 : Int32)), .val (.long x), .second, .val (.long y), .second, .val (.ref b3)] [(.ref b3)]) _
    refine own_go (fun t_ k_ => XS.iconst X3.here hx rfl (hb hby d2_11) k_) ?_
    show own_G p.tables e below T3 (mkF m 12 #[.val (.int (1 : Int32)), .val (.long x), .second, .val (.long y), .second, .val (.ref b3)] [(.int (0 : Int32)), (.ref b3)]) _
    refine own_go (fun t_ k_ => XS.lloadN X3.here hx rfl (hb hby d2_12) rfl k_) ?_
    show own_G p.tables e below T3 (mkF m 13 #[.val (.int (1 : Int32)), .val (.long x), .second, .val (.long y), .second, .val (.ref b3)] [(.long x), (.int (0 : Int32)), (.ref b3)]) _
    obtain ⟨cl4, Ar4, q4, S4, M4, H4, G4⟩ := id V3
    have hin4 : ¬ ((0 : Int32) < 0 ∨ cl4.slots.size ≤ ((0 : Int32)).toNatClampNeg) := inb_of S4 ⟨by decide, by decide⟩
    obtain ⟨T4, h4, X4, e4, W4, st4⟩ := stJ X3 hx hZ e3 Ar4 (j := (0 : Int32)) hin4 (g := (mkF m 13 #[.val (.int (1 : Int32)), .val (.long x), .second, .val (.long y), .second, .val (.ref b3)] [(.long x), (.int (0 : Int32)), (.ref b3)])) rfl rfl (hb hby d2_13)
    have N4 := Fr.snoc X4 N0 ge_b3
    have V4 : Arv Z h4 b3 k3 .long (1 : Int32) [(.long x)] (.long (0 : Int64)) := by
      have q := Arv.set Ar4 q4 S4 M4 H4 G4 rfl W4 0 rfl (Nat.le_of_ble_eq_true rfl)
      exact q
    refine own_go st4 ?_
    show own_G p.tables e below T4 (mkF m 14 #[.val (.int (1 : Int32)), .val (.long x), .second, .val (.long y), .second, .val (.ref b3)] []) _
    refine own_go (fun t_ k_ => XS.iloadN X4.here hx rfl (hb hby d2_14) rfl k_) ?_
    show own_G p.tables e below T4 (mkF m 15 #[.val (.int (1 : Int32)), .val (.long x), .second, .val (.long y), .second, .val (.ref b3)] [(.int (1 : Int32))]) _
    refine own_go (fun t_ k_ => XS.iconst X4.here hx rfl (hb hby d2_15) k_) ?_
    show own_G p.tables e below T4 (mkF m 16 #[.val (.int (1 : Int32)), .val (.long x), .second, .val (.long y), .second, .val (.ref b3)] [(.int (1 : Int32)), (.int (1 : Int32))]) _
    refine own_go (fun t_ k_ => XS.icmpYes X4.here hx rfl (pc0 := 16) (pc' := 24) rfl (hb hby d2_16) rfl (flt (by decide : ¬ ((1 : Int32) < (1 : Int32)))).2.2.2 (by decide) (by decide) k_) ?_
    show own_G p.tables e below T4 (mkF m 24 #[.val (.int (1 : Int32)), .val (.long x), .second, .val (.long y), .second, .val (.ref b3)] []) _
    refine own_go (fun t_ k_ => XS.aload X4.here hx rfl (hb hby d2_24) rfl rfl k_) ?_
    show own_G p.tables e below T4 (mkF m 26 #[.val (.int (1 : Int32)), .val (.long x), .second, .val (.long y), .second, .val (.ref b3)] [(.ref b3)]) _
    have f5 : Keep h0 h4 [] := (((Keep.refl h0 []).ext E3).wr W4 (Or.inr sz_b3))
    have f6 : Exa Z h4 b3 "[J" := (Ex3.wr W4)
    exact own_end (v := some (.ref b3)) X4 Bd.notSynchronized (fun h => by rw [Bd.returns] at h; cases h) (fun fs hr => own_retR X4 hx rfl Bd.returns rfl (hb hby d2_26) hr) e4 ⟨_, _, rfl, N4, f5, ge_b3, sz_b3, f6, (by rw [own_c1]; exact V4)⟩ (by decide) (by decide)
  · skip
    show own_G p.tables e below s₁ (mkF m 0 #[.val (.int (2 : Int32)), .val (.long x), .second, .val (.long y), .second, .unset] []) _
    refine own_go (fun t_ k_ => XS.iloadN X0.here hx rfl (hb hby d2_0) rfl k_) ?_
    show own_G p.tables e below s₁ (mkF m 1 #[.val (.int (2 : Int32)), .val (.long x), .second, .val (.long y), .second, .unset] [(.int (2 : Int32))]) _
    obtain ⟨T7, h7, k7, X7, e7, E7, A7, Ex7, st7⟩ := newPE X0 hx hZ (aty := .long) (hw _ (List.mem_of_getElem? (i := 11) rfl)) e0 (g := (mkF m 1 #[.val (.int (2 : Int32)), .val (.long x), .second, .val (.long y), .second, .unset] [(.int (2 : Int32))])) rfl (hb hby d2_1) rfl (by decide) (cap := 2) (by decide) (by decide) (by decide) (by decide) (ad := "[J") (by decide +kernel)
    obtain ⟨b7, g7⟩ : ∃ z, z = h0.size := ⟨_, rfl⟩
    rw [← g7] at A7 Ex7 st7
    have ge_b7 : n0 ≤ b7 := Nat.le_trans Z0 (Nat.le_of_eq g7.symm)
    have sz_b7 : h0.size ≤ b7 := Nat.le_trans (Keep.refl h0 []).1 (Nat.le_of_eq g7.symm)
    have V7 : Arv Z h7 b7 k7 .long (2 : Int32) [(.long (0 : Int64)), (.long (0 : Int64))] (.long (0 : Int64)) := (Arv.new A7 (by decide)).pad (pad_rep [] (.long (0 : Int64)) 2)
    refine own_go st7 ?_
    show own_G p.tables e below T7 (mkF m 3 #[.val (.int (2 : Int32)), .val (.long x), .second, .val (.long y), .second, .unset] [(.ref b7)]) _
    refine own_go (fun t_ k_ => XS.astore X7.here hx rfl (hb hby d2_3) rfl rfl (l' := #[.val (.int (2 : Int32)), .val (.long x), .second, .val (.long y), .second, .val (.ref b7)]) rfl k_) ?_
    show own_G p.tables e below T7 (mkF m 5 #[.val (.int (2 : Int32)), .val (.long x), .second, .val (.long y), .second, .val (.ref b7)] []) _
    refine own_go (fun t_ k_ => XS.iloadN X7.here hx rfl (hb hby d2_5) rfl k_) ?_
    show own_G p.tables e below T7 (mkF m 6 #[.val (.int (2 : Int32)), .val (.long x), .second, .val (.long y), .second, .val (.ref b7)] [(.int (2 : Int32))]) _
    refine own_go (fun t_ k_ => XS.ifNo X7.here hx rfl (hb hby d2_6) rfl ((if0 _ _).trans (tlt (by decide : ((0 : Int32) < (2 : Int32)))).2.2.2) k_) ?_
    show own_G p.tables e below T7 (mkF m 9 #[.val (.int (2 : Int32)), .val (.long x), .second, .val (.long y), .second, .val (.ref b7)] []) _
    refine own_go (fun t_ k_ => XS.aload X7.here hx rfl (hb hby d2_9) rfl rfl k_) ?_
    show own_G p.tables e below T7 (mkF m 11 #[.val (.int (2 : Int32)), .val (.long x), .second, .val (.long y), .second, .val (.ref b7)] [(.ref b7)]) _
    refine own_go (fun t_ k_ => XS.iconst X7.here hx rfl (hb hby d2_11) k_) ?_
    show own_G p.tables e below T7 (mkF m 12 #[.val (.int (2 : Int32)), .val (.long x), .second, .val (.long y), .second, .val (.ref b7)] [(.int (0 : Int32)), (.ref b7)]) _
    refine own_go (fun t_ k_ => XS.lloadN X7.here hx rfl (hb hby d2_12) rfl k_) ?_
    show own_G p.tables e below T7 (mkF m 13 #[.val (.int (2 : Int32)), .val (.long x), .second, .val (.long y), .second, .val (.ref b7)] [(.long x), (.int (0 : Int32)), (.ref b7)]) _
    obtain ⟨cl8, Ar8, q8, S8, M8, H8, G8⟩ := id V7
    have hin8 : ¬ ((0 : Int32) < 0 ∨ cl8.slots.size ≤ ((0 : Int32)).toNatClampNeg) := inb_of S8 ⟨by decide, by decide⟩
    obtain ⟨T8, h8, X8, e8, W8, st8⟩ := stJ X7 hx hZ e7 Ar8 (j := (0 : Int32)) hin8 (g := (mkF m 13 #[.val (.int (2 : Int32)), .val (.long x), .second, .val (.long y), .second, .val (.ref b7)] [(.long x), (.int (0 : Int32)), (.ref b7)])) rfl rfl (hb hby d2_13)
    have N8 := Fr.snoc X8 N0 ge_b7
    have V8 : Arv Z h8 b7 k7 .long (2 : Int32) [(.long x), (.long (0 : Int64))] (.long (0 : Int64)) := by
      have q := Arv.set Ar8 q8 S8 M8 H8 G8 rfl W8 0 rfl (Nat.le_of_ble_eq_true rfl)
      exact q
    refine own_go st8 ?_
    show own_G p.tables e below T8 (mkF m 14 #[.val (.int (2 : Int32)), .val (.long x), .second, .val (.long y), .second, .val (.ref b7)] []) _
    refine own_go (fun t_ k_ => XS.iloadN X8.here hx rfl (hb hby d2_14) rfl k_) ?_
    show own_G p.tables e below T8 (mkF m 15 #[.val (.int (2 : Int32)), .val (.long x), .second, .val (.long y), .second, .val (.ref b7)] [(.int (2 : Int32))]) _
    refine own_go (fun t_ k_ => XS.iconst X8.here hx rfl (hb hby d2_15) k_) ?_
    show own_G p.tables e below T8 (mkF m 16 #[.val (.int (2 : Int32)), .val (.long x), .second, .val (.long y), .second, .val (.ref b7)] [(.int (1 : Int32)), (.int (2 : Int32))]) _
    refine own_go (fun t_ k_ => XS.icmpNo X8.here hx rfl (hb hby d2_16) rfl (tlt (by decide : ((1 : Int32) < (2 : Int32)))).2.2.2 k_) ?_
    show own_G p.tables e below T8 (mkF m 19 #[.val (.int (2 : Int32)), .val (.long x), .second, .val (.long y), .second, .val (.ref b7)] []) _
    refine own_go (fun t_ k_ => XS.aload X8.here hx rfl (hb hby d2_19) rfl rfl k_) ?_
    show own_G p.tables e below T8 (mkF m 21 #[.val (.int (2 : Int32)), .val (.long x), .second, .val (.long y), .second, .val (.ref b7)] [(.ref b7)]) _
    refine own_go (fun t_ k_ => XS.iconst X8.here hx rfl (hb hby d2_21) k_) ?_
    show own_G p.tables e below T8 (mkF m 22 #[.val (.int (2 : Int32)), .val (.long x), .second, .val (.long y), .second, .val (.ref b7)] [(.int (1 : Int32)), (.ref b7)]) _
    refine own_go (fun t_ k_ => XS.lloadN X8.here hx rfl (hb hby d2_22) rfl k_) ?_
    show own_G p.tables e below T8 (mkF m 23 #[.val (.int (2 : Int32)), .val (.long x), .second, .val (.long y), .second, .val (.ref b7)] [(.long y), (.int (1 : Int32)), (.ref b7)]) _
    obtain ⟨cl9, Ar9, q9, S9, M9, H9, G9⟩ := id V8
    have hin9 : ¬ ((1 : Int32) < 0 ∨ cl9.slots.size ≤ ((1 : Int32)).toNatClampNeg) := inb_of S9 ⟨by decide, by decide⟩
    obtain ⟨T9, h9, X9, e9, W9, st9⟩ := stJ X8 hx hZ e8 Ar9 (j := (1 : Int32)) hin9 (g := (mkF m 23 #[.val (.int (2 : Int32)), .val (.long x), .second, .val (.long y), .second, .val (.ref b7)] [(.long y), (.int (1 : Int32)), (.ref b7)])) rfl rfl (hb hby d2_23)
    have N9 := Fr.snoc X9 N8 ge_b7
    have V9 : Arv Z h9 b7 k7 .long (2 : Int32) [(.long x), (.long y)] (.long (0 : Int64)) := by
      have q := Arv.set Ar9 q9 S9 M9 H9 G9 rfl W9 1 rfl (Nat.le_of_ble_eq_true rfl)
      exact q
    refine own_go st9 ?_
    show own_G p.tables e below T9 (mkF m 24 #[.val (.int (2 : Int32)), .val (.long x), .second, .val (.long y), .second, .val (.ref b7)] []) _
    refine own_go (fun t_ k_ => XS.aload X9.here hx rfl (hb hby d2_24) rfl rfl k_) ?_
    show own_G p.tables e below T9 (mkF m 26 #[.val (.int (2 : Int32)), .val (.long x), .second, .val (.long y), .second, .val (.ref b7)] [(.ref b7)]) _
    have f10 : Keep h0 h9 [] := ((((Keep.refl h0 []).ext E7).wr W8 (Or.inr sz_b7)).wr W9 (Or.inr sz_b7))
    have f11 : Exa Z h9 b7 "[J" := ((Ex7.wr W8).wr W9)
    exact own_end (v := some (.ref b7)) X9 Bd.notSynchronized (fun h => by rw [Bd.returns] at h; cases h) (fun fs hr => own_retR X9 hx rfl Bd.returns rfl (hb hby d2_26) hr) e9 ⟨_, _, rfl, N9, f10, ge_b7, sz_b7, f11, (by rw [own_c2]; exact V9)⟩ (by decide) (by decide)
theorem d3_0 : decode prog_19_method_1_code 0 = .ok (.aload_n 0, 1) := by decide +kernel
theorem d3_1 : decode prog_19_method_1_code 1 = .ok (.invokespecial 1, 3) := by decide +kernel
theorem d3_4 : decode prog_19_method_1_code 4 = .ok (.aload_n 0, 1) := by decide +kernel
theorem d3_5 : decode prog_19_method_1_code 5 = .ok (.iload_n 1, 1) := by decide +kernel
theorem d3_6 : decode prog_19_method_1_code 6 = .ok (.putfield 7, 3) := by decide +kernel
theorem d3_9 : decode prog_19_method_1_code 9 = .ok (.aload_n 0, 1) := by decide +kernel
theorem d3_10 : decode prog_19_method_1_code 10 = .ok (.aload_n 2, 1) := by decide +kernel
theorem d3_11 : decode prog_19_method_1_code 11 = .ok (.invokevirtual 13, 3) := by decide +kernel
theorem d3_14 : decode prog_19_method_1_code 14 = .ok (.checkcast 14, 3) := by decide +kernel
theorem d3_17 : decode prog_19_method_1_code 17 = .ok (.putfield 19, 3) := by decide +kernel
theorem d3_20 : decode prog_19_method_1_code 20 = .ok (.return_, 1) := by decide +kernel
theorem ef_3 (m : MethodId) (a1 : Addr) (p2 : Int32) (a3 : Addr) : entryFrame m #[(.ref a1), (.int p2), (.ref a3)] 3 = mkF m 0 #[.val (.ref a1), .val (.int p2), .val (.ref a3)] [] := by first | (simp [entryFrame, mkF, argsToLocals, Value.category]; done) | rfl
def Q3 (Z : State) (a1 : Addr) (p2 : Int32) (a3 : Addr) (k : ClassId) (n : Int32) (vs : List Value) (h0 : Heap) (n0 : Nat) (v : Option Value) (h : Heap) (L : List Loc) : Prop := v = none ∧ Fr n0 L ∧ Keep h0 h [a1] ∧ Exa Z h a1 "com/example/klearance/klearance/SecurityLabel" ∧ Fld Z h a1 "com/example/klearance/klearance/SecurityLabel" "level" "I" (.int p2) ∧ ∃ (b : Addr) (kb : ClassId), h0.size ≤ b ∧ Fld Z h a1 "com/example/klearance/klearance/SecurityLabel" "categories" "[J" (.ref b) ∧ Arv Z h b kb .long n vs (.long (0 : Int64))
set_option maxRecDepth 65536 in
set_option maxHeartbeats 40000000 in
theorem rm3 (l : Launch) (Z : State) (a0 : Array Value) (hw : ∀ d ∈ tables_1, d.before a0 Z = true) (ws : List Jvm.Cond) (a1 : Addr) (p2 : Int32) (a3 : Addr) (k : ClassId) (n : Int32) (vs : List Value) (h0 : Heap) (n0 : Nat) (Z0 : n0 ≤ h0.size) (ge1 : n0 ≤ a1) (E1 : Exa Z h0 a1 "com/example/klearance/klearance/SecurityLabel") (F1 : Fld Z h0 a1 "com/example/klearance/klearance/SecurityLabel" "level" "I" (.int (0 : Int32))) (F2 : Fld Z h0 a1 "com/example/klearance/klearance/SecurityLabel" "categories" "[J" .null) (E3 : Exa Z h0 a3 "[J") (V3 : Arv Z h0 a3 k .long n vs (.long (0 : Int64))) (h13 : a3 ≠ a1) (hcap : n.toNatClampNeg ≤ 2) :
    MetFree l (⟨"com/example/klearance/klearance/SecurityLabel", "<init>", "(I[J)V"⟩ : MethodName) (head1 (Jvm.Cond.code (⟨"com/example/klearance/klearance/SecurityLabel", "<init>", "(I[J)V"⟩ : MethodName) prog_19_method_1_code 3 none :: ws) ({ frames := 1, cells := 1, slots := 2, locals := 15 } : Room)) (fun a U => a = #[(.ref a1), (.int p2), (.ref a3)] ∧ Z.Warmed39 U.vm ∧ U.heap = h0) (fun _ _ _ _ _ => True) (fun _ U o U' => ∃ v L, o = .returned v ∧ Q3 Z a1 p2 a3 k n vs h0 n0 v U'.heap L ∧ FrameEnd U o U' L ({ frames := 1, cells := 1, slots := 2, locals := 15 } : Room).cells ({ frames := 1, cells := 1, slots := 2, locals := 15 } : Room).slots) := by
  refine MetFree.of_bodySF (plainFor_of_name own_pn1) hisR ?_
  intro p e s m args below meth c s₁ Bd hml0 hP hK
  obtain ⟨rfl, hZ, hh⟩ := hP
  have hx := Bd.exec
  have hby := Bd.bytes
  have hml : c.maxLocals = 3 := hml0
  have hown : s.vm.findClass "com/example/klearance/klearance/SecurityLabel" = some m.cls := findClass_of_methodNamed Bd.named
  have hnm := (name_of_methodNamed Bd.named Bd.method).1
  have X0 : Stand p l e ({ frames := 1, cells := 1, slots := 2, locals := 15 } : Room) s m #[(.ref a1), (.int p2), (.ref a3)] below meth c s₁ [] 0 0 := Stand.of_body Bd
  have e0 : s₁.heap = h0 := by rw [← hh, Bd.state]; rfl
  have N0 := Fr.nil n0
  refine own_top (Q := Q3 Z a1 p2 a3 k n vs h0 n0) (ef_3 m a1 p2 a3) ?_
  show own_G p.tables e below s₁ (mkF m 0 #[.val (.ref a1), .val (.int p2), .val (.ref a3)] []) _
  refine own_go (fun t_ k_ => XS.aloadN X0.here hx rfl (hb hby d3_0) rfl rfl k_) ?_
  show own_G p.tables e below s₁ (mkF m 1 #[.val (.ref a1), .val (.int p2), .val (.ref a3)] [(.ref a1)]) _
  obtain ⟨T1, X1, e1, st1⟩ := initO X0 hx hZ hown (hw _ (List.mem_of_getElem? (i := 15) rfl)) (hw _ (List.mem_of_getElem? (i := 16) rfl)) (hw _ (List.mem_of_getElem? (i := 17) rfl)) e0 (g := (mkF m 1 #[.val (.ref a1), .val (.int p2), .val (.ref a3)] [(.ref a1)])) rfl (by rw [hml]; rfl) rfl (hb hby d3_1) (by decide) (W := 0) (by show 2 * 0 + _ ≤ _; exact Nat.le_of_eq rfl) (by decide)
  refine own_go st1 ?_
  show own_G p.tables e below T1 (mkF m 4 #[.val (.ref a1), .val (.int p2), .val (.ref a3)] []) _
  refine own_go (fun t_ k_ => XS.aloadN X1.here hx rfl (hb hby d3_4) rfl rfl k_) ?_
  show own_G p.tables e below T1 (mkF m 5 #[.val (.ref a1), .val (.int p2), .val (.ref a3)] [(.ref a1)]) _
  refine own_go (fun t_ k_ => XS.iloadN X1.here hx rfl (hb hby d3_5) rfl k_) ?_
  show own_G p.tables e below T1 (mkF m 6 #[.val (.ref a1), .val (.int p2), .val (.ref a3)] [(.int p2), (.ref a1)]) _
  obtain ⟨T2, h2, X2, e2, W2, st2⟩ := putF X1 hx hZ hown (host := "") (Or.inl (hw _ (List.mem_of_getElem? (i := 18) rfl))) Via.refl e1 F1 E1 (Or.inr ⟨(hw _ (List.mem_of_getElem? (i := 19) rfl)), rfl, hnm⟩) (hw _ (List.mem_of_getElem? (i := 6) rfl)) (ty := .int) (by decide) rfl rfl (g := (mkF m 6 #[.val (.ref a1), .val (.int p2), .val (.ref a3)] [(.int p2), (.ref a1)])) rfl rfl (hb hby d3_6)
  have N2 := Fr.snoc X2 N0 ge1
  refine own_go st2 ?_
  show own_G p.tables e below T2 (mkF m 9 #[.val (.ref a1), .val (.int p2), .val (.ref a3)] []) _
  have f3 : Fld Z h2 a1 "com/example/klearance/klearance/SecurityLabel" "level" "I" (.int p2) := F1.same W2
  refine own_go (fun t_ k_ => XS.aloadN X2.here hx rfl (hb hby d3_9) rfl rfl k_) ?_
  show own_G p.tables e below T2 (mkF m 10 #[.val (.ref a1), .val (.int p2), .val (.ref a3)] [(.ref a1)]) _
  refine own_go (fun t_ k_ => XS.aloadN X2.here hx rfl (hb hby d3_10) rfl rfl k_) ?_
  show own_G p.tables e below T2 (mkF m 11 #[.val (.ref a1), .val (.int p2), .val (.ref a3)] [(.ref a3), (.ref a1)]) _
  have f4 : Arv Z h2 a3 k .long n vs (.long (0 : Int64)) := (V3.other W2 h13)
  obtain ⟨cl5, Ar5, q5, S5, M5, H5, G5⟩ := id f4
  have f7 : Exa Z h2 a3 "[J" := (E3.wr W2)
  obtain ⟨T6, h6, X6, e6, E6, A6, Ex6, st6⟩ := cloneA X2 hx hZ hown (hw _ (List.mem_of_getElem? (i := 20) rfl)) (hw _ (List.mem_of_getElem? (i := 21) rfl)) (hw _ (List.mem_of_getElem? (i := 25) rfl)) (hw _ (List.mem_of_getElem? (i := 23) rfl)) (hw _ (List.mem_of_getElem? (i := 24) rfl)) (hw _ (List.mem_of_getElem? (i := 26) rfl)) e2 Ar5 f7 (own_fitc Ar5 H5 G5) (g := (mkF m 11 #[.val (.ref a1), .val (.int p2), .val (.ref a3)] [(.ref a3), (.ref a1)])) rfl (by rw [hml]; rfl) rfl (hb hby d3_11) (by decide) (W := 1) (cap := 2) (by show 2 * 0 + _ ≤ _; exact Nat.le_of_eq rfl) (by decide) (by rw [S5]; exact hcap) (by decide) (by decide)
  obtain ⟨b6, g6⟩ : ∃ z, z = h2.size := ⟨_, rfl⟩
  rw [← g6] at A6 Ex6 st6
  have f8 : Exa Z h2 a1 "com/example/klearance/klearance/SecurityLabel" := (E1.wr W2)
  have ne9 : a1 ≠ b6 := Nat.ne_of_lt (Nat.lt_of_lt_of_le f8.lt (Nat.le_of_eq g6.symm))
  have ne10 : a3 ≠ b6 := Nat.ne_of_lt (Nat.lt_of_lt_of_le f7.lt (Nat.le_of_eq g6.symm))
  have f11 : n0 ≤ h2.size := (Nat.le_trans Z0 (Keep.of_wr W2).1)
  have ge_b6 : n0 ≤ b6 := Nat.le_trans f11 (Nat.le_of_eq g6.symm)
  have f12 : Keep h0 h2 [a1] := ((Keep.refl h0 [a1]).wr W2 (Or.inl (List.mem_of_getElem? (i := 0) rfl)))
  have sz_b6 : h0.size ≤ b6 := Nat.le_trans f12.1 (Nat.le_of_eq g6.symm)
  refine own_go st6 ?_
  show own_G p.tables e below T6 (mkF m 14 #[.val (.ref a1), .val (.int p2), .val (.ref a3)] [(.ref b6), (.ref a1)]) _
  have Vb5 : Arv Z h6 b6 k .long n vs (.long (0 : Int64)) := ⟨_, A6, q5, S5, M5, H5, G5⟩
  obtain ⟨T13, X13, e13, st13⟩ := castY X6 hx hZ hown (hw _ (List.mem_of_getElem? (i := 27) rfl)) e6 (Ins.self Ex6) (g := (mkF m 14 #[.val (.ref a1), .val (.int p2), .val (.ref a3)] [(.ref b6), (.ref a1)])) rfl rfl (hb hby d3_14)
  refine own_go st13 ?_
  show own_G p.tables e below T13 (mkF m 17 #[.val (.ref a1), .val (.int p2), .val (.ref a3)] [(.ref b6), (.ref a1)]) _
  have f14 : Exa Z h6 a1 "com/example/klearance/klearance/SecurityLabel" := (f8.ext E6)
  have f15 : Fld Z h6 a1 "com/example/klearance/klearance/SecurityLabel" "categories" "[J" .null := ((F2.other W2 (Or.inr (slot_ne (Or.inr (hw _ (List.mem_of_getElem? (i := 30) rfl))) (Or.inr (hw _ (List.mem_of_getElem? (i := 19) rfl))) (by decide) (t := (.array .long)) (t' := .int) (by decide) (by decide)))).ext E6)
  obtain ⟨T16, h16, X16, e16, W16, st16⟩ := putF X13 hx hZ hown (host := "") (Or.inl (hw _ (List.mem_of_getElem? (i := 29) rfl))) Via.refl e13 f15 f14 (Or.inr ⟨(hw _ (List.mem_of_getElem? (i := 30) rfl)), rfl, hnm⟩) (hw _ (List.mem_of_getElem? (i := 6) rfl)) (ty := (.array .long)) (by decide) rfl rfl (g := (mkF m 17 #[.val (.ref a1), .val (.int p2), .val (.ref a3)] [(.ref b6), (.ref a1)])) rfl rfl (hb hby d3_17)
  have N16 := Fr.snoc X16 N2 ge1
  refine own_go st16 ?_
  show own_G p.tables e below T16 (mkF m 20 #[.val (.ref a1), .val (.int p2), .val (.ref a3)] []) _
  have f17 : Fld Z h16 a1 "com/example/klearance/klearance/SecurityLabel" "categories" "[J" (.ref b6) := f15.same W16
  have f18 : Keep h0 h16 [a1] := ((f12.ext E6).wr W16 (Or.inl (List.mem_of_getElem? (i := 0) rfl)))
  have f19 : Exa Z h16 a1 "com/example/klearance/klearance/SecurityLabel" := (f14.wr W16)
  have f20 : Fld Z h16 a1 "com/example/klearance/klearance/SecurityLabel" "level" "I" (.int p2) := ((f3.ext E6).other W16 (Or.inr (slot_ne (Or.inr (hw _ (List.mem_of_getElem? (i := 19) rfl))) (Or.inr (hw _ (List.mem_of_getElem? (i := 30) rfl))) (by decide) (t := .int) (t' := (.array .long)) (by decide) (by decide))))
  have f21 : Arv Z h16 b6 k .long n vs (.long (0 : Int64)) := (Vb5.other W16 (Ne.symm ne9))
  exact own_end (v := none) X16 Bd.notSynchronized (fun _ => rfl) (fun fs hr => X16.returnOut hx Bd.returns (hb hby d3_20) hr) e16 ⟨rfl, N16, f18, f19, f20, _, _, sz_b6, f17, f21⟩ (by decide) (by decide)
theorem d5_0 : decode prog_19_method_2_code 0 = .ok (.aload_n 0, 1) := by decide +kernel
theorem d5_1 : decode prog_19_method_2_code 1 = .ok (.getfield 7, 3) := by decide +kernel
theorem d5_4 : decode prog_19_method_2_code 4 = .ok (.aload_n 1, 1) := by decide +kernel
theorem d5_5 : decode prog_19_method_2_code 5 = .ok (.getfield 7, 3) := by decide +kernel
theorem d5_8 : decode prog_19_method_2_code 8 = .ok (.if_icmp .ge 5, 3) := by decide +kernel
theorem d5_11 : decode prog_19_method_2_code 11 = .ok (.iconst 0, 1) := by decide +kernel
theorem d5_12 : decode prog_19_method_2_code 12 = .ok (.ireturn, 1) := by decide +kernel
theorem d5_13 : decode prog_19_method_2_code 13 = .ok (.iconst 0, 1) := by decide +kernel
theorem d5_14 : decode prog_19_method_2_code 14 = .ok (.istore_n 2, 1) := by decide +kernel
theorem d5_15 : decode prog_19_method_2_code 15 = .ok (.iload_n 2, 1) := by decide +kernel
theorem d5_16 : decode prog_19_method_2_code 16 = .ok (.aload_n 1, 1) := by decide +kernel
theorem d5_17 : decode prog_19_method_2_code 17 = .ok (.getfield 19, 3) := by decide +kernel
theorem d5_20 : decode prog_19_method_2_code 20 = .ok (.arraylength, 1) := by decide +kernel
theorem d5_21 : decode prog_19_method_2_code 21 = .ok (.if_icmp .ge 48, 3) := by decide +kernel
theorem d5_24 : decode prog_19_method_2_code 24 = .ok (.iload_n 2, 1) := by decide +kernel
theorem d5_25 : decode prog_19_method_2_code 25 = .ok (.aload_n 0, 1) := by decide +kernel
theorem d5_26 : decode prog_19_method_2_code 26 = .ok (.getfield 19, 3) := by decide +kernel
theorem d5_29 : decode prog_19_method_2_code 29 = .ok (.arraylength, 1) := by decide +kernel
theorem d5_30 : decode prog_19_method_2_code 30 = .ok (.if_icmp .ge 12, 3) := by decide +kernel
theorem d5_33 : decode prog_19_method_2_code 33 = .ok (.aload_n 0, 1) := by decide +kernel
theorem d5_34 : decode prog_19_method_2_code 34 = .ok (.getfield 19, 3) := by decide +kernel
theorem d5_37 : decode prog_19_method_2_code 37 = .ok (.iload_n 2, 1) := by decide +kernel
theorem d5_38 : decode prog_19_method_2_code 38 = .ok (.laload, 1) := by decide +kernel
theorem d5_39 : decode prog_19_method_2_code 39 = .ok (.goto 4, 3) := by decide +kernel
theorem d5_42 : decode prog_19_method_2_code 42 = .ok (.lconst 0, 1) := by decide +kernel
theorem d5_43 : decode prog_19_method_2_code 43 = .ok (.lstore_n 3, 1) := by decide +kernel
theorem d5_44 : decode prog_19_method_2_code 44 = .ok (.aload_n 1, 1) := by decide +kernel
theorem d5_45 : decode prog_19_method_2_code 45 = .ok (.getfield 19, 3) := by decide +kernel
theorem d5_48 : decode prog_19_method_2_code 48 = .ok (.iload_n 2, 1) := by decide +kernel
theorem d5_49 : decode prog_19_method_2_code 49 = .ok (.laload, 1) := by decide +kernel
theorem d5_50 : decode prog_19_method_2_code 50 = .ok (.lload_n 3, 1) := by decide +kernel
theorem d5_51 : decode prog_19_method_2_code 51 = .ok (.ldc2_w 22, 3) := by decide +kernel
theorem d5_54 : decode prog_19_method_2_code 54 = .ok (.lxor, 1) := by decide +kernel
theorem d5_55 : decode prog_19_method_2_code 55 = .ok (.land, 1) := by decide +kernel
theorem d5_56 : decode prog_19_method_2_code 56 = .ok (.lconst 0, 1) := by decide +kernel
theorem d5_57 : decode prog_19_method_2_code 57 = .ok (.lcmp, 1) := by decide +kernel
theorem d5_58 : decode prog_19_method_2_code 58 = .ok (.ifCond .eq 5, 3) := by decide +kernel
theorem d5_61 : decode prog_19_method_2_code 61 = .ok (.iconst 0, 1) := by decide +kernel
theorem d5_62 : decode prog_19_method_2_code 62 = .ok (.ireturn, 1) := by decide +kernel
theorem d5_63 : decode prog_19_method_2_code 63 = .ok (.iinc 2 1, 3) := by decide +kernel
theorem d5_66 : decode prog_19_method_2_code 66 = .ok (.goto (-51), 3) := by decide +kernel
theorem d5_69 : decode prog_19_method_2_code 69 = .ok (.iconst 1, 1) := by decide +kernel
theorem d5_70 : decode prog_19_method_2_code 70 = .ok (.ireturn, 1) := by decide +kernel
theorem ef_5 (m : MethodId) (a1 : Addr) (a2 : Addr) : entryFrame m #[(.ref a1), (.ref a2)] 5 = mkF m 0 #[.val (.ref a1), .val (.ref a2), .unset, .unset, .unset] [] := by first | (simp [entryFrame, mkF, argsToLocals, Value.category]; done) | rfl
def Q5 (Z : State) (a1 : Addr) (a2 : Addr) (la lb n1 n2 : Int32) (x0 x1 y0 y1 : Int64) (ca cb : Addr) (ka kb : ClassId) (h0 : Heap) (n0 : Nat) (v : Option Value) (h : Heap) (L : List Loc) : Prop := v = some (.int (own_dom la lb (own_e0 n1 x0) (own_e1 n1 x1) (own_e0 n2 y0) (own_e1 n2 y1))) ∧ Fr n0 L ∧ h = h0
set_option maxRecDepth 65536 in
set_option maxHeartbeats 40000000 in
theorem rm5 (l : Launch) (Z : State) (a0 : Array Value) (hw : ∀ d ∈ tables_1, d.before a0 Z = true) (ws : List Jvm.Cond) (a1 : Addr) (a2 : Addr) (la lb n1 n2 : Int32) (x0 x1 y0 y1 : Int64) (ca cb : Addr) (ka kb : ClassId) (h0 : Heap) (n0 : Nat) (Z0 : n0 ≤ h0.size) (Fa : Fld Z h0 a1 "com/example/klearance/klearance/SecurityLabel" "level" "I" (.int la)) (Fb : Fld Z h0 a2 "com/example/klearance/klearance/SecurityLabel" "level" "I" (.int lb)) (Ga : Fld Z h0 a1 "com/example/klearance/klearance/SecurityLabel" "categories" "[J" (.ref ca)) (Gb : Fld Z h0 a2 "com/example/klearance/klearance/SecurityLabel" "categories" "[J" (.ref cb)) (Va : Arv Z h0 ca ka .long n1 (own_cats n1 x0 x1) (.long (0 : Int64))) (Vb : Arv Z h0 cb kb .long n2 (own_cats n2 y0 y1) (.long (0 : Int64))) (h1 : n1 = 0 ∨ n1 = 1 ∨ n1 = 2) (h2 : n2 = 0 ∨ n2 = 1 ∨ n2 = 2) :
    MetFree l (⟨"com/example/klearance/klearance/SecurityLabel", "dominates", "(Lcom/example/klearance/klearance/SecurityLabel;)Z"⟩ : MethodName) (head1 (Jvm.Cond.code (⟨"com/example/klearance/klearance/SecurityLabel", "dominates", "(Lcom/example/klearance/klearance/SecurityLabel;)Z"⟩ : MethodName) prog_19_method_2_code 5 (some .boolean) :: ws) ({ frames := 0, cells := 0, slots := 0, locals := 0 } : Room)) (fun a U => a = #[(.ref a1), (.ref a2)] ∧ Z.Warmed39 U.vm ∧ U.heap = h0) (fun _ _ _ _ _ => True) (fun _ U o U' => ∃ v L, o = .returned v ∧ Q5 Z a1 a2 la lb n1 n2 x0 x1 y0 y1 ca cb ka kb h0 n0 v U'.heap L ∧ FrameEnd U o U' L ({ frames := 0, cells := 0, slots := 0, locals := 0 } : Room).cells ({ frames := 0, cells := 0, slots := 0, locals := 0 } : Room).slots) := by
  refine MetFree.of_bodySF (plainFor_of_name own_pn1) hisR ?_
  intro p e s m args below meth c s₁ Bd hml0 hP hK
  obtain ⟨rfl, hZ, hh⟩ := hP
  have hx := Bd.exec
  have hby := Bd.bytes
  have hml : c.maxLocals = 5 := hml0
  have hown : s.vm.findClass "com/example/klearance/klearance/SecurityLabel" = some m.cls := findClass_of_methodNamed Bd.named
  have hnm := (name_of_methodNamed Bd.named Bd.method).1
  have X0 : Stand p l e ({ frames := 0, cells := 0, slots := 0, locals := 0 } : Room) s m #[(.ref a1), (.ref a2)] below meth c s₁ [] 0 0 := Stand.of_body Bd
  have e0 : s₁.heap = h0 := by rw [← hh, Bd.state]; rfl
  have N0 := Fr.nil n0
  refine own_top (Q := Q5 Z a1 a2 la lb n1 n2 x0 x1 y0 y1 ca cb ka kb h0 n0) (ef_5 m a1 a2) ?_
  rcases h1 with rfl | rfl | rfl
  · skip
    rw [own_c0] at Va
    rcases h2 with rfl | rfl | rfl
    · skip
      rw [own_c0] at Vb
      show own_G p.tables e below s₁ (mkF m 0 #[.val (.ref a1), .val (.ref a2), .unset, .unset, .unset] []) _
      refine own_go (fun t_ k_ => XS.aloadN X0.here hx rfl (hb hby d5_0) rfl rfl k_) ?_
      show own_G p.tables e below s₁ (mkF m 1 #[.val (.ref a1), .val (.ref a2), .unset, .unset, .unset] [(.ref a1)]) _
      obtain ⟨T1, X1, e1, st1⟩ := getF X0 hx hZ hown (host := "") (Or.inl (hw _ (List.mem_of_getElem? (i := 18) rfl))) Via.refl e0 Fa (g := (mkF m 1 #[.val (.ref a1), .val (.ref a2), .unset, .unset, .unset] [(.ref a1)])) rfl rfl (hb hby d5_1)
      refine own_go st1 ?_
      show own_G p.tables e below T1 (mkF m 4 #[.val (.ref a1), .val (.ref a2), .unset, .unset, .unset] [(.int la)]) _
      refine own_go (fun t_ k_ => XS.aloadN X1.here hx rfl (hb hby d5_4) rfl rfl k_) ?_
      show own_G p.tables e below T1 (mkF m 5 #[.val (.ref a1), .val (.ref a2), .unset, .unset, .unset] [(.ref a2), (.int la)]) _
      obtain ⟨T2, X2, e2, st2⟩ := getF X1 hx hZ hown (host := "") (Or.inl (hw _ (List.mem_of_getElem? (i := 18) rfl))) Via.refl e1 Fb (g := (mkF m 5 #[.val (.ref a1), .val (.ref a2), .unset, .unset, .unset] [(.ref a2), (.int la)])) rfl rfl (hb hby d5_5)
      refine own_go st2 ?_
      show own_G p.tables e below T2 (mkF m 8 #[.val (.ref a1), .val (.ref a2), .unset, .unset, .unset] [(.int lb), (.int la)]) _
      by_cases hc8_3 : la < lb
      · skip
        refine own_go (fun t_ k_ => XS.icmpNo X2.here hx rfl (hb hby d5_8) rfl (tlt hc8_3).2.1 k_) ?_
        show own_G p.tables e below T2 (mkF m 11 #[.val (.ref a1), .val (.ref a2), .unset, .unset, .unset] []) _
        refine own_go (fun t_ k_ => XS.iconst X2.here hx rfl (hb hby d5_11) k_) ?_
        show own_G p.tables e below T2 (mkF m 12 #[.val (.ref a1), .val (.ref a2), .unset, .unset, .unset] [(.int (0 : Int32))]) _
        exact own_end (v := some (.int (0 : Int32))) X2 Bd.notSynchronized (fun h => by rw [Bd.returns] at h; cases h) (fun fs hr => retN X2 hx (z := (0 : Int32)) (t := .boolean) Bd.returns (by simp) (hb hby d5_12) hr) e2 ⟨congrArg (fun z => some (Value.int z)) (by rw [own_e0_0, own_e1_0, own_e0_0, own_e1_0]; unfold own_dom; rw [if_pos hc8_3]), N0, rfl⟩ (by decide) (by decide)
      · skip
        refine own_go (fun t_ k_ => XS.icmpYes X2.here hx rfl (pc0 := 8) (pc' := 13) rfl (hb hby d5_8) rfl (flt hc8_3).2.1 (by decide) (by decide) k_) ?_
        show own_G p.tables e below T2 (mkF m 13 #[.val (.ref a1), .val (.ref a2), .unset, .unset, .unset] []) _
        refine own_go (fun t_ k_ => XS.iconst X2.here hx rfl (hb hby d5_13) k_) ?_
        show own_G p.tables e below T2 (mkF m 14 #[.val (.ref a1), .val (.ref a2), .unset, .unset, .unset] [(.int (0 : Int32))]) _
        refine own_go (fun t_ k_ => XS.istoreN X2.here hx rfl (hb hby d5_14) rfl (l' := #[.val (.ref a1), .val (.ref a2), .val (.int (0 : Int32)), .unset, .unset]) rfl k_) ?_
        show own_G p.tables e below T2 (mkF m 15 #[.val (.ref a1), .val (.ref a2), .val (.int (0 : Int32)), .unset, .unset] []) _
        refine own_go (fun t_ k_ => XS.iloadN X2.here hx rfl (hb hby d5_15) rfl k_) ?_
        show own_G p.tables e below T2 (mkF m 16 #[.val (.ref a1), .val (.ref a2), .val (.int (0 : Int32)), .unset, .unset] [(.int (0 : Int32))]) _
        refine own_go (fun t_ k_ => XS.aloadN X2.here hx rfl (hb hby d5_16) rfl rfl k_) ?_
        show own_G p.tables e below T2 (mkF m 17 #[.val (.ref a1), .val (.ref a2), .val (.int (0 : Int32)), .unset, .unset] [(.ref a2), (.int (0 : Int32))]) _
        obtain ⟨T4, X4, e4, st4⟩ := getF X2 hx hZ hown (host := "") (Or.inl (hw _ (List.mem_of_getElem? (i := 29) rfl))) Via.refl e2 Gb (g := (mkF m 17 #[.val (.ref a1), .val (.ref a2), .val (.int (0 : Int32)), .unset, .unset] [(.ref a2), (.int (0 : Int32))])) rfl rfl (hb hby d5_17)
        refine own_go st4 ?_
        show own_G p.tables e below T4 (mkF m 20 #[.val (.ref a1), .val (.ref a2), .val (.int (0 : Int32)), .unset, .unset] [(.ref cb), (.int (0 : Int32))]) _
        obtain ⟨cl5, Ar5, -, S5, M5, H5, -⟩ := id Vb
        refine own_go (fun t_ k_ => X4.arraylength hx (by rw [e4]; exact Ar5.1) (State.isArrayOf_alike hZ.alike Ar5.2.1) (g := (mkF m 20 #[.val (.ref a1), .val (.ref a2), .val (.int (0 : Int32)), .unset, .unset] [(.ref cb), (.int (0 : Int32))])) rfl rfl (hb hby d5_20) _ k_) ?_
        show own_G p.tables e below T4 (mkF m 21 #[.val (.ref a1), .val (.ref a2), .val (.int (0 : Int32)), .unset, .unset] [(.int cl5.slots.size.toInt32), (.int (0 : Int32))]) _
        rw [len_of S5 M5]
        show own_G p.tables e below T4 (mkF m 21 #[.val (.ref a1), .val (.ref a2), .val (.int (0 : Int32)), .unset, .unset] [(.int (0 : Int32)), (.int (0 : Int32))]) _
        refine own_go (fun t_ k_ => XS.icmpYes X4.here hx rfl (pc0 := 21) (pc' := 69) rfl (hb hby d5_21) rfl (flt (by decide : ¬ ((0 : Int32) < (0 : Int32)))).2.1 (by decide) (by decide) k_) ?_
        show own_G p.tables e below T4 (mkF m 69 #[.val (.ref a1), .val (.ref a2), .val (.int (0 : Int32)), .unset, .unset] []) _
        refine own_go (fun t_ k_ => XS.iconst X4.here hx rfl (hb hby d5_69) k_) ?_
        show own_G p.tables e below T4 (mkF m 70 #[.val (.ref a1), .val (.ref a2), .val (.int (0 : Int32)), .unset, .unset] [(.int (1 : Int32))]) _
        exact own_end (v := some (.int (1 : Int32))) X4 Bd.notSynchronized (fun h => by rw [Bd.returns] at h; cases h) (fun fs hr => retN X4 hx (z := (1 : Int32)) (t := .boolean) Bd.returns (by simp) (hb hby d5_70) hr) e4 ⟨congrArg (fun z => some (Value.int z)) (by rw [own_e0_0, own_e1_0, own_e0_0, own_e1_0]; unfold own_dom; rw [if_neg hc8_3, if_pos (own_z _), if_pos (own_z _)]), N0, rfl⟩ (by decide) (by decide)
    · skip
      rw [own_c1] at Vb
      show own_G p.tables e below s₁ (mkF m 0 #[.val (.ref a1), .val (.ref a2), .unset, .unset, .unset] []) _
      refine own_go (fun t_ k_ => XS.aloadN X0.here hx rfl (hb hby d5_0) rfl rfl k_) ?_
      show own_G p.tables e below s₁ (mkF m 1 #[.val (.ref a1), .val (.ref a2), .unset, .unset, .unset] [(.ref a1)]) _
      obtain ⟨T6, X6, e6, st6⟩ := getF X0 hx hZ hown (host := "") (Or.inl (hw _ (List.mem_of_getElem? (i := 18) rfl))) Via.refl e0 Fa (g := (mkF m 1 #[.val (.ref a1), .val (.ref a2), .unset, .unset, .unset] [(.ref a1)])) rfl rfl (hb hby d5_1)
      refine own_go st6 ?_
      show own_G p.tables e below T6 (mkF m 4 #[.val (.ref a1), .val (.ref a2), .unset, .unset, .unset] [(.int la)]) _
      refine own_go (fun t_ k_ => XS.aloadN X6.here hx rfl (hb hby d5_4) rfl rfl k_) ?_
      show own_G p.tables e below T6 (mkF m 5 #[.val (.ref a1), .val (.ref a2), .unset, .unset, .unset] [(.ref a2), (.int la)]) _
      obtain ⟨T7, X7, e7, st7⟩ := getF X6 hx hZ hown (host := "") (Or.inl (hw _ (List.mem_of_getElem? (i := 18) rfl))) Via.refl e6 Fb (g := (mkF m 5 #[.val (.ref a1), .val (.ref a2), .unset, .unset, .unset] [(.ref a2), (.int la)])) rfl rfl (hb hby d5_5)
      refine own_go st7 ?_
      show own_G p.tables e below T7 (mkF m 8 #[.val (.ref a1), .val (.ref a2), .unset, .unset, .unset] [(.int lb), (.int la)]) _
      by_cases hc8_8 : la < lb
      · skip
        refine own_go (fun t_ k_ => XS.icmpNo X7.here hx rfl (hb hby d5_8) rfl (tlt hc8_8).2.1 k_) ?_
        show own_G p.tables e below T7 (mkF m 11 #[.val (.ref a1), .val (.ref a2), .unset, .unset, .unset] []) _
        refine own_go (fun t_ k_ => XS.iconst X7.here hx rfl (hb hby d5_11) k_) ?_
        show own_G p.tables e below T7 (mkF m 12 #[.val (.ref a1), .val (.ref a2), .unset, .unset, .unset] [(.int (0 : Int32))]) _
        exact own_end (v := some (.int (0 : Int32))) X7 Bd.notSynchronized (fun h => by rw [Bd.returns] at h; cases h) (fun fs hr => retN X7 hx (z := (0 : Int32)) (t := .boolean) Bd.returns (by simp) (hb hby d5_12) hr) e7 ⟨congrArg (fun z => some (Value.int z)) (by rw [own_e0_0, own_e1_0, own_e0_1, own_e1_1]; unfold own_dom; rw [if_pos hc8_8]), N0, rfl⟩ (by decide) (by decide)
      · skip
        refine own_go (fun t_ k_ => XS.icmpYes X7.here hx rfl (pc0 := 8) (pc' := 13) rfl (hb hby d5_8) rfl (flt hc8_8).2.1 (by decide) (by decide) k_) ?_
        show own_G p.tables e below T7 (mkF m 13 #[.val (.ref a1), .val (.ref a2), .unset, .unset, .unset] []) _
        refine own_go (fun t_ k_ => XS.iconst X7.here hx rfl (hb hby d5_13) k_) ?_
        show own_G p.tables e below T7 (mkF m 14 #[.val (.ref a1), .val (.ref a2), .unset, .unset, .unset] [(.int (0 : Int32))]) _
        refine own_go (fun t_ k_ => XS.istoreN X7.here hx rfl (hb hby d5_14) rfl (l' := #[.val (.ref a1), .val (.ref a2), .val (.int (0 : Int32)), .unset, .unset]) rfl k_) ?_
        show own_G p.tables e below T7 (mkF m 15 #[.val (.ref a1), .val (.ref a2), .val (.int (0 : Int32)), .unset, .unset] []) _
        refine own_go (fun t_ k_ => XS.iloadN X7.here hx rfl (hb hby d5_15) rfl k_) ?_
        show own_G p.tables e below T7 (mkF m 16 #[.val (.ref a1), .val (.ref a2), .val (.int (0 : Int32)), .unset, .unset] [(.int (0 : Int32))]) _
        refine own_go (fun t_ k_ => XS.aloadN X7.here hx rfl (hb hby d5_16) rfl rfl k_) ?_
        show own_G p.tables e below T7 (mkF m 17 #[.val (.ref a1), .val (.ref a2), .val (.int (0 : Int32)), .unset, .unset] [(.ref a2), (.int (0 : Int32))]) _
        obtain ⟨T9, X9, e9, st9⟩ := getF X7 hx hZ hown (host := "") (Or.inl (hw _ (List.mem_of_getElem? (i := 29) rfl))) Via.refl e7 Gb (g := (mkF m 17 #[.val (.ref a1), .val (.ref a2), .val (.int (0 : Int32)), .unset, .unset] [(.ref a2), (.int (0 : Int32))])) rfl rfl (hb hby d5_17)
        refine own_go st9 ?_
        show own_G p.tables e below T9 (mkF m 20 #[.val (.ref a1), .val (.ref a2), .val (.int (0 : Int32)), .unset, .unset] [(.ref cb), (.int (0 : Int32))]) _
        obtain ⟨cl10, Ar10, -, S10, M10, H10, -⟩ := id Vb
        refine own_go (fun t_ k_ => X9.arraylength hx (by rw [e9]; exact Ar10.1) (State.isArrayOf_alike hZ.alike Ar10.2.1) (g := (mkF m 20 #[.val (.ref a1), .val (.ref a2), .val (.int (0 : Int32)), .unset, .unset] [(.ref cb), (.int (0 : Int32))])) rfl rfl (hb hby d5_20) _ k_) ?_
        show own_G p.tables e below T9 (mkF m 21 #[.val (.ref a1), .val (.ref a2), .val (.int (0 : Int32)), .unset, .unset] [(.int cl10.slots.size.toInt32), (.int (0 : Int32))]) _
        rw [len_of S10 M10]
        show own_G p.tables e below T9 (mkF m 21 #[.val (.ref a1), .val (.ref a2), .val (.int (0 : Int32)), .unset, .unset] [(.int (1 : Int32)), (.int (0 : Int32))]) _
        refine own_go (fun t_ k_ => XS.icmpNo X9.here hx rfl (hb hby d5_21) rfl (tlt (by decide : ((0 : Int32) < (1 : Int32)))).2.1 k_) ?_
        show own_G p.tables e below T9 (mkF m 24 #[.val (.ref a1), .val (.ref a2), .val (.int (0 : Int32)), .unset, .unset] []) _
        refine own_go (fun t_ k_ => XS.iloadN X9.here hx rfl (hb hby d5_24) rfl k_) ?_
        show own_G p.tables e below T9 (mkF m 25 #[.val (.ref a1), .val (.ref a2), .val (.int (0 : Int32)), .unset, .unset] [(.int (0 : Int32))]) _
        refine own_go (fun t_ k_ => XS.aloadN X9.here hx rfl (hb hby d5_25) rfl rfl k_) ?_
        show own_G p.tables e below T9 (mkF m 26 #[.val (.ref a1), .val (.ref a2), .val (.int (0 : Int32)), .unset, .unset] [(.ref a1), (.int (0 : Int32))]) _
        obtain ⟨T11, X11, e11, st11⟩ := getF X9 hx hZ hown (host := "") (Or.inl (hw _ (List.mem_of_getElem? (i := 29) rfl))) Via.refl e9 Ga (g := (mkF m 26 #[.val (.ref a1), .val (.ref a2), .val (.int (0 : Int32)), .unset, .unset] [(.ref a1), (.int (0 : Int32))])) rfl rfl (hb hby d5_26)
        refine own_go st11 ?_
        show own_G p.tables e below T11 (mkF m 29 #[.val (.ref a1), .val (.ref a2), .val (.int (0 : Int32)), .unset, .unset] [(.ref ca), (.int (0 : Int32))]) _
        obtain ⟨cl12, Ar12, -, S12, M12, H12, -⟩ := id Va
        refine own_go (fun t_ k_ => X11.arraylength hx (by rw [e11]; exact Ar12.1) (State.isArrayOf_alike hZ.alike Ar12.2.1) (g := (mkF m 29 #[.val (.ref a1), .val (.ref a2), .val (.int (0 : Int32)), .unset, .unset] [(.ref ca), (.int (0 : Int32))])) rfl rfl (hb hby d5_29) _ k_) ?_
        show own_G p.tables e below T11 (mkF m 30 #[.val (.ref a1), .val (.ref a2), .val (.int (0 : Int32)), .unset, .unset] [(.int cl12.slots.size.toInt32), (.int (0 : Int32))]) _
        rw [len_of S12 M12]
        show own_G p.tables e below T11 (mkF m 30 #[.val (.ref a1), .val (.ref a2), .val (.int (0 : Int32)), .unset, .unset] [(.int (0 : Int32)), (.int (0 : Int32))]) _
        refine own_go (fun t_ k_ => XS.icmpYes X11.here hx rfl (pc0 := 30) (pc' := 42) rfl (hb hby d5_30) rfl (flt (by decide : ¬ ((0 : Int32) < (0 : Int32)))).2.1 (by decide) (by decide) k_) ?_
        show own_G p.tables e below T11 (mkF m 42 #[.val (.ref a1), .val (.ref a2), .val (.int (0 : Int32)), .unset, .unset] []) _
        refine own_go (fun t_ k_ => XS.lconst X11.here hx rfl (hb hby d5_42) k_) ?_
        show own_G p.tables e below T11 (mkF m 43 #[.val (.ref a1), .val (.ref a2), .val (.int (0 : Int32)), .unset, .unset] [(.long (0 : Int64))]) _
        refine own_go (fun t_ k_ => XS.lstoreN X11.here hx rfl (hb hby d5_43) rfl (l' := #[.val (.ref a1), .val (.ref a2), .val (.int (0 : Int32)), .val (.long (0 : Int64)), .second]) rfl k_) ?_
        show own_G p.tables e below T11 (mkF m 44 #[.val (.ref a1), .val (.ref a2), .val (.int (0 : Int32)), .val (.long (0 : Int64)), .second] []) _
        refine own_go (fun t_ k_ => XS.aloadN X11.here hx rfl (hb hby d5_44) rfl rfl k_) ?_
        show own_G p.tables e below T11 (mkF m 45 #[.val (.ref a1), .val (.ref a2), .val (.int (0 : Int32)), .val (.long (0 : Int64)), .second] [(.ref a2)]) _
        obtain ⟨T13, X13, e13, st13⟩ := getF X11 hx hZ hown (host := "") (Or.inl (hw _ (List.mem_of_getElem? (i := 29) rfl))) Via.refl e11 Gb (g := (mkF m 45 #[.val (.ref a1), .val (.ref a2), .val (.int (0 : Int32)), .val (.long (0 : Int64)), .second] [(.ref a2)])) rfl rfl (hb hby d5_45)
        refine own_go st13 ?_
        show own_G p.tables e below T13 (mkF m 48 #[.val (.ref a1), .val (.ref a2), .val (.int (0 : Int32)), .val (.long (0 : Int64)), .second] [(.ref cb)]) _
        refine own_go (fun t_ k_ => XS.iloadN X13.here hx rfl (hb hby d5_48) rfl k_) ?_
        show own_G p.tables e below T13 (mkF m 49 #[.val (.ref a1), .val (.ref a2), .val (.int (0 : Int32)), .val (.long (0 : Int64)), .second] [(.int (0 : Int32)), (.ref cb)]) _
        obtain ⟨cl14, Ar14, -, S14, M14, H14, -⟩ := id Vb
        have hin14_49 : ¬ ((0 : Int32) < 0 ∨ cl14.slots.size ≤ ((0 : Int32)).toNatClampNeg) := inb_of S14 ⟨by decide, by decide⟩
        refine own_go (fun t_ k_ => X13.laload hx (j := (0 : Int32)) (v := (.long y0)) (by rw [e13]; exact Ar14.1) (State.isArrayOf_alike hZ.alike Ar14.2.1) Ar14.2.2 hin14_49 (H14.at hin14_49 rfl) (g := (mkF m 49 #[.val (.ref a1), .val (.ref a2), .val (.int (0 : Int32)), .val (.long (0 : Int64)), .second] [(.int (0 : Int32)), (.ref cb)])) rfl rfl (hb hby d5_49) _ k_) ?_
        show own_G p.tables e below T13 (mkF m 50 #[.val (.ref a1), .val (.ref a2), .val (.int (0 : Int32)), .val (.long (0 : Int64)), .second] [(.long y0)]) _
        refine own_go (fun t_ k_ => XS.lloadN X13.here hx rfl (hb hby d5_50) rfl k_) ?_
        show own_G p.tables e below T13 (mkF m 51 #[.val (.ref a1), .val (.ref a2), .val (.int (0 : Int32)), .val (.long (0 : Int64)), .second] [(.long (0 : Int64)), (.long y0)]) _
        refine own_go (fun t_ k_ => X13.ldc2Long hx hown (mvT hZ (hw _ (List.mem_of_getElem? (i := 36) rfl))) (g := (mkF m 51 #[.val (.ref a1), .val (.ref a2), .val (.int (0 : Int32)), .val (.long (0 : Int64)), .second] [(.long (0 : Int64)), (.long y0)])) rfl (hb hby d5_51) _ k_) ?_
        show own_G p.tables e below T13 (mkF m 54 #[.val (.ref a1), .val (.ref a2), .val (.int (0 : Int32)), .val (.long (0 : Int64)), .second] [(.long (-1 : Int64)), (.long (0 : Int64)), (.long y0)]) _
        refine own_go (fun t_ k_ => XS.lxor X13.here hx rfl (hb hby d5_54) rfl k_) ?_
        show own_G p.tables e below T13 (mkF m 55 #[.val (.ref a1), .val (.ref a2), .val (.int (0 : Int32)), .val (.long (0 : Int64)), .second] [(.long ((0 : Int64) ^^^ (-1 : Int64))), (.long y0)]) _
        refine own_go (fun t_ k_ => XS.land X13.here hx rfl (hb hby d5_55) rfl k_) ?_
        show own_G p.tables e below T13 (mkF m 56 #[.val (.ref a1), .val (.ref a2), .val (.int (0 : Int32)), .val (.long (0 : Int64)), .second] [(.long (y0 &&& ((0 : Int64) ^^^ (-1 : Int64))))]) _
        refine own_go (fun t_ k_ => XS.lconst X13.here hx rfl (hb hby d5_56) k_) ?_
        show own_G p.tables e below T13 (mkF m 57 #[.val (.ref a1), .val (.ref a2), .val (.int (0 : Int32)), .val (.long (0 : Int64)), .second] [(.long (0 : Int64)), (.long (y0 &&& ((0 : Int64) ^^^ (-1 : Int64))))]) _
        refine own_go (fun t_ k_ => XS.lcmp X13.here hx rfl (hb hby d5_57) rfl k_) ?_
        show own_G p.tables e below T13 (mkF m 58 #[.val (.ref a1), .val (.ref a2), .val (.int (0 : Int32)), .val (.long (0 : Int64)), .second] [(.int (lcmpW (y0 &&& ((0 : Int64) ^^^ (-1 : Int64))) (0 : Int64)))]) _
        by_cases hc58_15 : (y0 &&& ((0 : Int64) ^^^ (-1 : Int64))) = (0 : Int64)
        · skip
          refine own_go (fun t_ k_ => XS.ifYes X13.here hx rfl (pc0 := 58) (pc' := 63) rfl (hb hby d5_58) rfl ((if0 _ _).trans (teq ((lw_eq (y0 &&& ((0 : Int64) ^^^ (-1 : Int64))) (0 : Int64)).mpr hc58_15)).1) (by decide) (by decide) k_) ?_
          show own_G p.tables e below T13 (mkF m 63 #[.val (.ref a1), .val (.ref a2), .val (.int (0 : Int32)), .val (.long (0 : Int64)), .second] []) _
          refine own_go (fun t_ k_ => XS.iinc X13.here hx rfl (hb hby d5_63) rfl (l' := #[.val (.ref a1), .val (.ref a2), .val (.int (1 : Int32)), .val (.long (0 : Int64)), .second]) rfl k_) ?_
          show own_G p.tables e below T13 (mkF m 66 #[.val (.ref a1), .val (.ref a2), .val (.int (1 : Int32)), .val (.long (0 : Int64)), .second] []) _
          refine own_go (fun t_ k_ => XS.goto X13.here hx rfl (pc0 := 66) (pc' := 15) rfl (hb hby d5_66) (by decide) (by decide) k_) ?_
          show own_G p.tables e below T13 (mkF m 15 #[.val (.ref a1), .val (.ref a2), .val (.int (1 : Int32)), .val (.long (0 : Int64)), .second] []) _
          refine own_go (fun t_ k_ => XS.iloadN X13.here hx rfl (hb hby d5_15) rfl k_) ?_
          show own_G p.tables e below T13 (mkF m 16 #[.val (.ref a1), .val (.ref a2), .val (.int (1 : Int32)), .val (.long (0 : Int64)), .second] [(.int (1 : Int32))]) _
          refine own_go (fun t_ k_ => XS.aloadN X13.here hx rfl (hb hby d5_16) rfl rfl k_) ?_
          show own_G p.tables e below T13 (mkF m 17 #[.val (.ref a1), .val (.ref a2), .val (.int (1 : Int32)), .val (.long (0 : Int64)), .second] [(.ref a2), (.int (1 : Int32))]) _
          obtain ⟨T16, X16, e16, st16⟩ := getF X13 hx hZ hown (host := "") (Or.inl (hw _ (List.mem_of_getElem? (i := 29) rfl))) Via.refl e13 Gb (g := (mkF m 17 #[.val (.ref a1), .val (.ref a2), .val (.int (1 : Int32)), .val (.long (0 : Int64)), .second] [(.ref a2), (.int (1 : Int32))])) rfl rfl (hb hby d5_17)
          refine own_go st16 ?_
          show own_G p.tables e below T16 (mkF m 20 #[.val (.ref a1), .val (.ref a2), .val (.int (1 : Int32)), .val (.long (0 : Int64)), .second] [(.ref cb), (.int (1 : Int32))]) _
          obtain ⟨cl17, Ar17, -, S17, M17, H17, -⟩ := id Vb
          refine own_go (fun t_ k_ => X16.arraylength hx (by rw [e16]; exact Ar17.1) (State.isArrayOf_alike hZ.alike Ar17.2.1) (g := (mkF m 20 #[.val (.ref a1), .val (.ref a2), .val (.int (1 : Int32)), .val (.long (0 : Int64)), .second] [(.ref cb), (.int (1 : Int32))])) rfl rfl (hb hby d5_20) _ k_) ?_
          show own_G p.tables e below T16 (mkF m 21 #[.val (.ref a1), .val (.ref a2), .val (.int (1 : Int32)), .val (.long (0 : Int64)), .second] [(.int cl17.slots.size.toInt32), (.int (1 : Int32))]) _
          rw [len_of S17 M17]
          show own_G p.tables e below T16 (mkF m 21 #[.val (.ref a1), .val (.ref a2), .val (.int (1 : Int32)), .val (.long (0 : Int64)), .second] [(.int (1 : Int32)), (.int (1 : Int32))]) _
          refine own_go (fun t_ k_ => XS.icmpYes X16.here hx rfl (pc0 := 21) (pc' := 69) rfl (hb hby d5_21) rfl (flt (by decide : ¬ ((1 : Int32) < (1 : Int32)))).2.1 (by decide) (by decide) k_) ?_
          show own_G p.tables e below T16 (mkF m 69 #[.val (.ref a1), .val (.ref a2), .val (.int (1 : Int32)), .val (.long (0 : Int64)), .second] []) _
          refine own_go (fun t_ k_ => XS.iconst X16.here hx rfl (hb hby d5_69) k_) ?_
          show own_G p.tables e below T16 (mkF m 70 #[.val (.ref a1), .val (.ref a2), .val (.int (1 : Int32)), .val (.long (0 : Int64)), .second] [(.int (1 : Int32))]) _
          exact own_end (v := some (.int (1 : Int32))) X16 Bd.notSynchronized (fun h => by rw [Bd.returns] at h; cases h) (fun fs hr => retN X16 hx (z := (1 : Int32)) (t := .boolean) Bd.returns (by simp) (hb hby d5_70) hr) e16 ⟨congrArg (fun z => some (Value.int z)) (by rw [own_e0_0, own_e1_0, own_e0_1, own_e1_1]; unfold own_dom; rw [if_neg hc8_8, if_pos hc58_15, if_pos (own_z _)]), N0, rfl⟩ (by decide) (by decide)
        · skip
          refine own_go (fun t_ k_ => XS.ifNo X13.here hx rfl (hb hby d5_58) rfl ((if0 _ _).trans (feq (mt (lw_eq (y0 &&& ((0 : Int64) ^^^ (-1 : Int64))) (0 : Int64)).mp hc58_15)).1) k_) ?_
          show own_G p.tables e below T13 (mkF m 61 #[.val (.ref a1), .val (.ref a2), .val (.int (0 : Int32)), .val (.long (0 : Int64)), .second] []) _
          refine own_go (fun t_ k_ => XS.iconst X13.here hx rfl (hb hby d5_61) k_) ?_
          show own_G p.tables e below T13 (mkF m 62 #[.val (.ref a1), .val (.ref a2), .val (.int (0 : Int32)), .val (.long (0 : Int64)), .second] [(.int (0 : Int32))]) _
          exact own_end (v := some (.int (0 : Int32))) X13 Bd.notSynchronized (fun h => by rw [Bd.returns] at h; cases h) (fun fs hr => retN X13 hx (z := (0 : Int32)) (t := .boolean) Bd.returns (by simp) (hb hby d5_62) hr) e13 ⟨congrArg (fun z => some (Value.int z)) (by rw [own_e0_0, own_e1_0, own_e0_1, own_e1_1]; unfold own_dom; rw [if_neg hc8_8, if_neg hc58_15]), N0, rfl⟩ (by decide) (by decide)
    · skip
      rw [own_c2] at Vb
      show own_G p.tables e below s₁ (mkF m 0 #[.val (.ref a1), .val (.ref a2), .unset, .unset, .unset] []) _
      refine own_go (fun t_ k_ => XS.aloadN X0.here hx rfl (hb hby d5_0) rfl rfl k_) ?_
      show own_G p.tables e below s₁ (mkF m 1 #[.val (.ref a1), .val (.ref a2), .unset, .unset, .unset] [(.ref a1)]) _
      obtain ⟨T18, X18, e18, st18⟩ := getF X0 hx hZ hown (host := "") (Or.inl (hw _ (List.mem_of_getElem? (i := 18) rfl))) Via.refl e0 Fa (g := (mkF m 1 #[.val (.ref a1), .val (.ref a2), .unset, .unset, .unset] [(.ref a1)])) rfl rfl (hb hby d5_1)
      refine own_go st18 ?_
      show own_G p.tables e below T18 (mkF m 4 #[.val (.ref a1), .val (.ref a2), .unset, .unset, .unset] [(.int la)]) _
      refine own_go (fun t_ k_ => XS.aloadN X18.here hx rfl (hb hby d5_4) rfl rfl k_) ?_
      show own_G p.tables e below T18 (mkF m 5 #[.val (.ref a1), .val (.ref a2), .unset, .unset, .unset] [(.ref a2), (.int la)]) _
      obtain ⟨T19, X19, e19, st19⟩ := getF X18 hx hZ hown (host := "") (Or.inl (hw _ (List.mem_of_getElem? (i := 18) rfl))) Via.refl e18 Fb (g := (mkF m 5 #[.val (.ref a1), .val (.ref a2), .unset, .unset, .unset] [(.ref a2), (.int la)])) rfl rfl (hb hby d5_5)
      refine own_go st19 ?_
      show own_G p.tables e below T19 (mkF m 8 #[.val (.ref a1), .val (.ref a2), .unset, .unset, .unset] [(.int lb), (.int la)]) _
      by_cases hc8_20 : la < lb
      · skip
        refine own_go (fun t_ k_ => XS.icmpNo X19.here hx rfl (hb hby d5_8) rfl (tlt hc8_20).2.1 k_) ?_
        show own_G p.tables e below T19 (mkF m 11 #[.val (.ref a1), .val (.ref a2), .unset, .unset, .unset] []) _
        refine own_go (fun t_ k_ => XS.iconst X19.here hx rfl (hb hby d5_11) k_) ?_
        show own_G p.tables e below T19 (mkF m 12 #[.val (.ref a1), .val (.ref a2), .unset, .unset, .unset] [(.int (0 : Int32))]) _
        exact own_end (v := some (.int (0 : Int32))) X19 Bd.notSynchronized (fun h => by rw [Bd.returns] at h; cases h) (fun fs hr => retN X19 hx (z := (0 : Int32)) (t := .boolean) Bd.returns (by simp) (hb hby d5_12) hr) e19 ⟨congrArg (fun z => some (Value.int z)) (by rw [own_e0_0, own_e1_0, own_e0_2, own_e1_2]; unfold own_dom; rw [if_pos hc8_20]), N0, rfl⟩ (by decide) (by decide)
      · skip
        refine own_go (fun t_ k_ => XS.icmpYes X19.here hx rfl (pc0 := 8) (pc' := 13) rfl (hb hby d5_8) rfl (flt hc8_20).2.1 (by decide) (by decide) k_) ?_
        show own_G p.tables e below T19 (mkF m 13 #[.val (.ref a1), .val (.ref a2), .unset, .unset, .unset] []) _
        refine own_go (fun t_ k_ => XS.iconst X19.here hx rfl (hb hby d5_13) k_) ?_
        show own_G p.tables e below T19 (mkF m 14 #[.val (.ref a1), .val (.ref a2), .unset, .unset, .unset] [(.int (0 : Int32))]) _
        refine own_go (fun t_ k_ => XS.istoreN X19.here hx rfl (hb hby d5_14) rfl (l' := #[.val (.ref a1), .val (.ref a2), .val (.int (0 : Int32)), .unset, .unset]) rfl k_) ?_
        show own_G p.tables e below T19 (mkF m 15 #[.val (.ref a1), .val (.ref a2), .val (.int (0 : Int32)), .unset, .unset] []) _
        refine own_go (fun t_ k_ => XS.iloadN X19.here hx rfl (hb hby d5_15) rfl k_) ?_
        show own_G p.tables e below T19 (mkF m 16 #[.val (.ref a1), .val (.ref a2), .val (.int (0 : Int32)), .unset, .unset] [(.int (0 : Int32))]) _
        refine own_go (fun t_ k_ => XS.aloadN X19.here hx rfl (hb hby d5_16) rfl rfl k_) ?_
        show own_G p.tables e below T19 (mkF m 17 #[.val (.ref a1), .val (.ref a2), .val (.int (0 : Int32)), .unset, .unset] [(.ref a2), (.int (0 : Int32))]) _
        obtain ⟨T21, X21, e21, st21⟩ := getF X19 hx hZ hown (host := "") (Or.inl (hw _ (List.mem_of_getElem? (i := 29) rfl))) Via.refl e19 Gb (g := (mkF m 17 #[.val (.ref a1), .val (.ref a2), .val (.int (0 : Int32)), .unset, .unset] [(.ref a2), (.int (0 : Int32))])) rfl rfl (hb hby d5_17)
        refine own_go st21 ?_
        show own_G p.tables e below T21 (mkF m 20 #[.val (.ref a1), .val (.ref a2), .val (.int (0 : Int32)), .unset, .unset] [(.ref cb), (.int (0 : Int32))]) _
        obtain ⟨cl22, Ar22, -, S22, M22, H22, -⟩ := id Vb
        refine own_go (fun t_ k_ => X21.arraylength hx (by rw [e21]; exact Ar22.1) (State.isArrayOf_alike hZ.alike Ar22.2.1) (g := (mkF m 20 #[.val (.ref a1), .val (.ref a2), .val (.int (0 : Int32)), .unset, .unset] [(.ref cb), (.int (0 : Int32))])) rfl rfl (hb hby d5_20) _ k_) ?_
        show own_G p.tables e below T21 (mkF m 21 #[.val (.ref a1), .val (.ref a2), .val (.int (0 : Int32)), .unset, .unset] [(.int cl22.slots.size.toInt32), (.int (0 : Int32))]) _
        rw [len_of S22 M22]
        show own_G p.tables e below T21 (mkF m 21 #[.val (.ref a1), .val (.ref a2), .val (.int (0 : Int32)), .unset, .unset] [(.int (2 : Int32)), (.int (0 : Int32))]) _
        refine own_go (fun t_ k_ => XS.icmpNo X21.here hx rfl (hb hby d5_21) rfl (tlt (by decide : ((0 : Int32) < (2 : Int32)))).2.1 k_) ?_
        show own_G p.tables e below T21 (mkF m 24 #[.val (.ref a1), .val (.ref a2), .val (.int (0 : Int32)), .unset, .unset] []) _
        refine own_go (fun t_ k_ => XS.iloadN X21.here hx rfl (hb hby d5_24) rfl k_) ?_
        show own_G p.tables e below T21 (mkF m 25 #[.val (.ref a1), .val (.ref a2), .val (.int (0 : Int32)), .unset, .unset] [(.int (0 : Int32))]) _
        refine own_go (fun t_ k_ => XS.aloadN X21.here hx rfl (hb hby d5_25) rfl rfl k_) ?_
        show own_G p.tables e below T21 (mkF m 26 #[.val (.ref a1), .val (.ref a2), .val (.int (0 : Int32)), .unset, .unset] [(.ref a1), (.int (0 : Int32))]) _
        obtain ⟨T23, X23, e23, st23⟩ := getF X21 hx hZ hown (host := "") (Or.inl (hw _ (List.mem_of_getElem? (i := 29) rfl))) Via.refl e21 Ga (g := (mkF m 26 #[.val (.ref a1), .val (.ref a2), .val (.int (0 : Int32)), .unset, .unset] [(.ref a1), (.int (0 : Int32))])) rfl rfl (hb hby d5_26)
        refine own_go st23 ?_
        show own_G p.tables e below T23 (mkF m 29 #[.val (.ref a1), .val (.ref a2), .val (.int (0 : Int32)), .unset, .unset] [(.ref ca), (.int (0 : Int32))]) _
        obtain ⟨cl24, Ar24, -, S24, M24, H24, -⟩ := id Va
        refine own_go (fun t_ k_ => X23.arraylength hx (by rw [e23]; exact Ar24.1) (State.isArrayOf_alike hZ.alike Ar24.2.1) (g := (mkF m 29 #[.val (.ref a1), .val (.ref a2), .val (.int (0 : Int32)), .unset, .unset] [(.ref ca), (.int (0 : Int32))])) rfl rfl (hb hby d5_29) _ k_) ?_
        show own_G p.tables e below T23 (mkF m 30 #[.val (.ref a1), .val (.ref a2), .val (.int (0 : Int32)), .unset, .unset] [(.int cl24.slots.size.toInt32), (.int (0 : Int32))]) _
        rw [len_of S24 M24]
        show own_G p.tables e below T23 (mkF m 30 #[.val (.ref a1), .val (.ref a2), .val (.int (0 : Int32)), .unset, .unset] [(.int (0 : Int32)), (.int (0 : Int32))]) _
        refine own_go (fun t_ k_ => XS.icmpYes X23.here hx rfl (pc0 := 30) (pc' := 42) rfl (hb hby d5_30) rfl (flt (by decide : ¬ ((0 : Int32) < (0 : Int32)))).2.1 (by decide) (by decide) k_) ?_
        show own_G p.tables e below T23 (mkF m 42 #[.val (.ref a1), .val (.ref a2), .val (.int (0 : Int32)), .unset, .unset] []) _
        refine own_go (fun t_ k_ => XS.lconst X23.here hx rfl (hb hby d5_42) k_) ?_
        show own_G p.tables e below T23 (mkF m 43 #[.val (.ref a1), .val (.ref a2), .val (.int (0 : Int32)), .unset, .unset] [(.long (0 : Int64))]) _
        refine own_go (fun t_ k_ => XS.lstoreN X23.here hx rfl (hb hby d5_43) rfl (l' := #[.val (.ref a1), .val (.ref a2), .val (.int (0 : Int32)), .val (.long (0 : Int64)), .second]) rfl k_) ?_
        show own_G p.tables e below T23 (mkF m 44 #[.val (.ref a1), .val (.ref a2), .val (.int (0 : Int32)), .val (.long (0 : Int64)), .second] []) _
        refine own_go (fun t_ k_ => XS.aloadN X23.here hx rfl (hb hby d5_44) rfl rfl k_) ?_
        show own_G p.tables e below T23 (mkF m 45 #[.val (.ref a1), .val (.ref a2), .val (.int (0 : Int32)), .val (.long (0 : Int64)), .second] [(.ref a2)]) _
        obtain ⟨T25, X25, e25, st25⟩ := getF X23 hx hZ hown (host := "") (Or.inl (hw _ (List.mem_of_getElem? (i := 29) rfl))) Via.refl e23 Gb (g := (mkF m 45 #[.val (.ref a1), .val (.ref a2), .val (.int (0 : Int32)), .val (.long (0 : Int64)), .second] [(.ref a2)])) rfl rfl (hb hby d5_45)
        refine own_go st25 ?_
        show own_G p.tables e below T25 (mkF m 48 #[.val (.ref a1), .val (.ref a2), .val (.int (0 : Int32)), .val (.long (0 : Int64)), .second] [(.ref cb)]) _
        refine own_go (fun t_ k_ => XS.iloadN X25.here hx rfl (hb hby d5_48) rfl k_) ?_
        show own_G p.tables e below T25 (mkF m 49 #[.val (.ref a1), .val (.ref a2), .val (.int (0 : Int32)), .val (.long (0 : Int64)), .second] [(.int (0 : Int32)), (.ref cb)]) _
        obtain ⟨cl26, Ar26, -, S26, M26, H26, -⟩ := id Vb
        have hin26_49 : ¬ ((0 : Int32) < 0 ∨ cl26.slots.size ≤ ((0 : Int32)).toNatClampNeg) := inb_of S26 ⟨by decide, by decide⟩
        refine own_go (fun t_ k_ => X25.laload hx (j := (0 : Int32)) (v := (.long y0)) (by rw [e25]; exact Ar26.1) (State.isArrayOf_alike hZ.alike Ar26.2.1) Ar26.2.2 hin26_49 (H26.at hin26_49 rfl) (g := (mkF m 49 #[.val (.ref a1), .val (.ref a2), .val (.int (0 : Int32)), .val (.long (0 : Int64)), .second] [(.int (0 : Int32)), (.ref cb)])) rfl rfl (hb hby d5_49) _ k_) ?_
        show own_G p.tables e below T25 (mkF m 50 #[.val (.ref a1), .val (.ref a2), .val (.int (0 : Int32)), .val (.long (0 : Int64)), .second] [(.long y0)]) _
        refine own_go (fun t_ k_ => XS.lloadN X25.here hx rfl (hb hby d5_50) rfl k_) ?_
        show own_G p.tables e below T25 (mkF m 51 #[.val (.ref a1), .val (.ref a2), .val (.int (0 : Int32)), .val (.long (0 : Int64)), .second] [(.long (0 : Int64)), (.long y0)]) _
        refine own_go (fun t_ k_ => X25.ldc2Long hx hown (mvT hZ (hw _ (List.mem_of_getElem? (i := 36) rfl))) (g := (mkF m 51 #[.val (.ref a1), .val (.ref a2), .val (.int (0 : Int32)), .val (.long (0 : Int64)), .second] [(.long (0 : Int64)), (.long y0)])) rfl (hb hby d5_51) _ k_) ?_
        show own_G p.tables e below T25 (mkF m 54 #[.val (.ref a1), .val (.ref a2), .val (.int (0 : Int32)), .val (.long (0 : Int64)), .second] [(.long (-1 : Int64)), (.long (0 : Int64)), (.long y0)]) _
        refine own_go (fun t_ k_ => XS.lxor X25.here hx rfl (hb hby d5_54) rfl k_) ?_
        show own_G p.tables e below T25 (mkF m 55 #[.val (.ref a1), .val (.ref a2), .val (.int (0 : Int32)), .val (.long (0 : Int64)), .second] [(.long ((0 : Int64) ^^^ (-1 : Int64))), (.long y0)]) _
        refine own_go (fun t_ k_ => XS.land X25.here hx rfl (hb hby d5_55) rfl k_) ?_
        show own_G p.tables e below T25 (mkF m 56 #[.val (.ref a1), .val (.ref a2), .val (.int (0 : Int32)), .val (.long (0 : Int64)), .second] [(.long (y0 &&& ((0 : Int64) ^^^ (-1 : Int64))))]) _
        refine own_go (fun t_ k_ => XS.lconst X25.here hx rfl (hb hby d5_56) k_) ?_
        show own_G p.tables e below T25 (mkF m 57 #[.val (.ref a1), .val (.ref a2), .val (.int (0 : Int32)), .val (.long (0 : Int64)), .second] [(.long (0 : Int64)), (.long (y0 &&& ((0 : Int64) ^^^ (-1 : Int64))))]) _
        refine own_go (fun t_ k_ => XS.lcmp X25.here hx rfl (hb hby d5_57) rfl k_) ?_
        show own_G p.tables e below T25 (mkF m 58 #[.val (.ref a1), .val (.ref a2), .val (.int (0 : Int32)), .val (.long (0 : Int64)), .second] [(.int (lcmpW (y0 &&& ((0 : Int64) ^^^ (-1 : Int64))) (0 : Int64)))]) _
        by_cases hc58_27 : (y0 &&& ((0 : Int64) ^^^ (-1 : Int64))) = (0 : Int64)
        · skip
          refine own_go (fun t_ k_ => XS.ifYes X25.here hx rfl (pc0 := 58) (pc' := 63) rfl (hb hby d5_58) rfl ((if0 _ _).trans (teq ((lw_eq (y0 &&& ((0 : Int64) ^^^ (-1 : Int64))) (0 : Int64)).mpr hc58_27)).1) (by decide) (by decide) k_) ?_
          show own_G p.tables e below T25 (mkF m 63 #[.val (.ref a1), .val (.ref a2), .val (.int (0 : Int32)), .val (.long (0 : Int64)), .second] []) _
          refine own_go (fun t_ k_ => XS.iinc X25.here hx rfl (hb hby d5_63) rfl (l' := #[.val (.ref a1), .val (.ref a2), .val (.int (1 : Int32)), .val (.long (0 : Int64)), .second]) rfl k_) ?_
          show own_G p.tables e below T25 (mkF m 66 #[.val (.ref a1), .val (.ref a2), .val (.int (1 : Int32)), .val (.long (0 : Int64)), .second] []) _
          refine own_go (fun t_ k_ => XS.goto X25.here hx rfl (pc0 := 66) (pc' := 15) rfl (hb hby d5_66) (by decide) (by decide) k_) ?_
          show own_G p.tables e below T25 (mkF m 15 #[.val (.ref a1), .val (.ref a2), .val (.int (1 : Int32)), .val (.long (0 : Int64)), .second] []) _
          refine own_go (fun t_ k_ => XS.iloadN X25.here hx rfl (hb hby d5_15) rfl k_) ?_
          show own_G p.tables e below T25 (mkF m 16 #[.val (.ref a1), .val (.ref a2), .val (.int (1 : Int32)), .val (.long (0 : Int64)), .second] [(.int (1 : Int32))]) _
          refine own_go (fun t_ k_ => XS.aloadN X25.here hx rfl (hb hby d5_16) rfl rfl k_) ?_
          show own_G p.tables e below T25 (mkF m 17 #[.val (.ref a1), .val (.ref a2), .val (.int (1 : Int32)), .val (.long (0 : Int64)), .second] [(.ref a2), (.int (1 : Int32))]) _
          obtain ⟨T28, X28, e28, st28⟩ := getF X25 hx hZ hown (host := "") (Or.inl (hw _ (List.mem_of_getElem? (i := 29) rfl))) Via.refl e25 Gb (g := (mkF m 17 #[.val (.ref a1), .val (.ref a2), .val (.int (1 : Int32)), .val (.long (0 : Int64)), .second] [(.ref a2), (.int (1 : Int32))])) rfl rfl (hb hby d5_17)
          refine own_go st28 ?_
          show own_G p.tables e below T28 (mkF m 20 #[.val (.ref a1), .val (.ref a2), .val (.int (1 : Int32)), .val (.long (0 : Int64)), .second] [(.ref cb), (.int (1 : Int32))]) _
          obtain ⟨cl29, Ar29, -, S29, M29, H29, -⟩ := id Vb
          refine own_go (fun t_ k_ => X28.arraylength hx (by rw [e28]; exact Ar29.1) (State.isArrayOf_alike hZ.alike Ar29.2.1) (g := (mkF m 20 #[.val (.ref a1), .val (.ref a2), .val (.int (1 : Int32)), .val (.long (0 : Int64)), .second] [(.ref cb), (.int (1 : Int32))])) rfl rfl (hb hby d5_20) _ k_) ?_
          show own_G p.tables e below T28 (mkF m 21 #[.val (.ref a1), .val (.ref a2), .val (.int (1 : Int32)), .val (.long (0 : Int64)), .second] [(.int cl29.slots.size.toInt32), (.int (1 : Int32))]) _
          rw [len_of S29 M29]
          show own_G p.tables e below T28 (mkF m 21 #[.val (.ref a1), .val (.ref a2), .val (.int (1 : Int32)), .val (.long (0 : Int64)), .second] [(.int (2 : Int32)), (.int (1 : Int32))]) _
          refine own_go (fun t_ k_ => XS.icmpNo X28.here hx rfl (hb hby d5_21) rfl (tlt (by decide : ((1 : Int32) < (2 : Int32)))).2.1 k_) ?_
          show own_G p.tables e below T28 (mkF m 24 #[.val (.ref a1), .val (.ref a2), .val (.int (1 : Int32)), .val (.long (0 : Int64)), .second] []) _
          refine own_go (fun t_ k_ => XS.iloadN X28.here hx rfl (hb hby d5_24) rfl k_) ?_
          show own_G p.tables e below T28 (mkF m 25 #[.val (.ref a1), .val (.ref a2), .val (.int (1 : Int32)), .val (.long (0 : Int64)), .second] [(.int (1 : Int32))]) _
          refine own_go (fun t_ k_ => XS.aloadN X28.here hx rfl (hb hby d5_25) rfl rfl k_) ?_
          show own_G p.tables e below T28 (mkF m 26 #[.val (.ref a1), .val (.ref a2), .val (.int (1 : Int32)), .val (.long (0 : Int64)), .second] [(.ref a1), (.int (1 : Int32))]) _
          obtain ⟨T30, X30, e30, st30⟩ := getF X28 hx hZ hown (host := "") (Or.inl (hw _ (List.mem_of_getElem? (i := 29) rfl))) Via.refl e28 Ga (g := (mkF m 26 #[.val (.ref a1), .val (.ref a2), .val (.int (1 : Int32)), .val (.long (0 : Int64)), .second] [(.ref a1), (.int (1 : Int32))])) rfl rfl (hb hby d5_26)
          refine own_go st30 ?_
          show own_G p.tables e below T30 (mkF m 29 #[.val (.ref a1), .val (.ref a2), .val (.int (1 : Int32)), .val (.long (0 : Int64)), .second] [(.ref ca), (.int (1 : Int32))]) _
          obtain ⟨cl31, Ar31, -, S31, M31, H31, -⟩ := id Va
          refine own_go (fun t_ k_ => X30.arraylength hx (by rw [e30]; exact Ar31.1) (State.isArrayOf_alike hZ.alike Ar31.2.1) (g := (mkF m 29 #[.val (.ref a1), .val (.ref a2), .val (.int (1 : Int32)), .val (.long (0 : Int64)), .second] [(.ref ca), (.int (1 : Int32))])) rfl rfl (hb hby d5_29) _ k_) ?_
          show own_G p.tables e below T30 (mkF m 30 #[.val (.ref a1), .val (.ref a2), .val (.int (1 : Int32)), .val (.long (0 : Int64)), .second] [(.int cl31.slots.size.toInt32), (.int (1 : Int32))]) _
          rw [len_of S31 M31]
          show own_G p.tables e below T30 (mkF m 30 #[.val (.ref a1), .val (.ref a2), .val (.int (1 : Int32)), .val (.long (0 : Int64)), .second] [(.int (0 : Int32)), (.int (1 : Int32))]) _
          refine own_go (fun t_ k_ => XS.icmpYes X30.here hx rfl (pc0 := 30) (pc' := 42) rfl (hb hby d5_30) rfl (flt (by decide : ¬ ((1 : Int32) < (0 : Int32)))).2.1 (by decide) (by decide) k_) ?_
          show own_G p.tables e below T30 (mkF m 42 #[.val (.ref a1), .val (.ref a2), .val (.int (1 : Int32)), .val (.long (0 : Int64)), .second] []) _
          refine own_go (fun t_ k_ => XS.lconst X30.here hx rfl (hb hby d5_42) k_) ?_
          show own_G p.tables e below T30 (mkF m 43 #[.val (.ref a1), .val (.ref a2), .val (.int (1 : Int32)), .val (.long (0 : Int64)), .second] [(.long (0 : Int64))]) _
          refine own_go (fun t_ k_ => XS.lstoreN X30.here hx rfl (hb hby d5_43) rfl (l' := #[.val (.ref a1), .val (.ref a2), .val (.int (1 : Int32)), .val (.long (0 : Int64)), .second]) rfl k_) ?_
          show own_G p.tables e below T30 (mkF m 44 #[.val (.ref a1), .val (.ref a2), .val (.int (1 : Int32)), .val (.long (0 : Int64)), .second] []) _
          refine own_go (fun t_ k_ => XS.aloadN X30.here hx rfl (hb hby d5_44) rfl rfl k_) ?_
          show own_G p.tables e below T30 (mkF m 45 #[.val (.ref a1), .val (.ref a2), .val (.int (1 : Int32)), .val (.long (0 : Int64)), .second] [(.ref a2)]) _
          obtain ⟨T32, X32, e32, st32⟩ := getF X30 hx hZ hown (host := "") (Or.inl (hw _ (List.mem_of_getElem? (i := 29) rfl))) Via.refl e30 Gb (g := (mkF m 45 #[.val (.ref a1), .val (.ref a2), .val (.int (1 : Int32)), .val (.long (0 : Int64)), .second] [(.ref a2)])) rfl rfl (hb hby d5_45)
          refine own_go st32 ?_
          show own_G p.tables e below T32 (mkF m 48 #[.val (.ref a1), .val (.ref a2), .val (.int (1 : Int32)), .val (.long (0 : Int64)), .second] [(.ref cb)]) _
          refine own_go (fun t_ k_ => XS.iloadN X32.here hx rfl (hb hby d5_48) rfl k_) ?_
          show own_G p.tables e below T32 (mkF m 49 #[.val (.ref a1), .val (.ref a2), .val (.int (1 : Int32)), .val (.long (0 : Int64)), .second] [(.int (1 : Int32)), (.ref cb)]) _
          obtain ⟨cl33, Ar33, -, S33, M33, H33, -⟩ := id Vb
          have hin33_49 : ¬ ((1 : Int32) < 0 ∨ cl33.slots.size ≤ ((1 : Int32)).toNatClampNeg) := inb_of S33 ⟨by decide, by decide⟩
          refine own_go (fun t_ k_ => X32.laload hx (j := (1 : Int32)) (v := (.long y1)) (by rw [e32]; exact Ar33.1) (State.isArrayOf_alike hZ.alike Ar33.2.1) Ar33.2.2 hin33_49 (H33.at hin33_49 rfl) (g := (mkF m 49 #[.val (.ref a1), .val (.ref a2), .val (.int (1 : Int32)), .val (.long (0 : Int64)), .second] [(.int (1 : Int32)), (.ref cb)])) rfl rfl (hb hby d5_49) _ k_) ?_
          show own_G p.tables e below T32 (mkF m 50 #[.val (.ref a1), .val (.ref a2), .val (.int (1 : Int32)), .val (.long (0 : Int64)), .second] [(.long y1)]) _
          refine own_go (fun t_ k_ => XS.lloadN X32.here hx rfl (hb hby d5_50) rfl k_) ?_
          show own_G p.tables e below T32 (mkF m 51 #[.val (.ref a1), .val (.ref a2), .val (.int (1 : Int32)), .val (.long (0 : Int64)), .second] [(.long (0 : Int64)), (.long y1)]) _
          refine own_go (fun t_ k_ => X32.ldc2Long hx hown (mvT hZ (hw _ (List.mem_of_getElem? (i := 36) rfl))) (g := (mkF m 51 #[.val (.ref a1), .val (.ref a2), .val (.int (1 : Int32)), .val (.long (0 : Int64)), .second] [(.long (0 : Int64)), (.long y1)])) rfl (hb hby d5_51) _ k_) ?_
          show own_G p.tables e below T32 (mkF m 54 #[.val (.ref a1), .val (.ref a2), .val (.int (1 : Int32)), .val (.long (0 : Int64)), .second] [(.long (-1 : Int64)), (.long (0 : Int64)), (.long y1)]) _
          refine own_go (fun t_ k_ => XS.lxor X32.here hx rfl (hb hby d5_54) rfl k_) ?_
          show own_G p.tables e below T32 (mkF m 55 #[.val (.ref a1), .val (.ref a2), .val (.int (1 : Int32)), .val (.long (0 : Int64)), .second] [(.long ((0 : Int64) ^^^ (-1 : Int64))), (.long y1)]) _
          refine own_go (fun t_ k_ => XS.land X32.here hx rfl (hb hby d5_55) rfl k_) ?_
          show own_G p.tables e below T32 (mkF m 56 #[.val (.ref a1), .val (.ref a2), .val (.int (1 : Int32)), .val (.long (0 : Int64)), .second] [(.long (y1 &&& ((0 : Int64) ^^^ (-1 : Int64))))]) _
          refine own_go (fun t_ k_ => XS.lconst X32.here hx rfl (hb hby d5_56) k_) ?_
          show own_G p.tables e below T32 (mkF m 57 #[.val (.ref a1), .val (.ref a2), .val (.int (1 : Int32)), .val (.long (0 : Int64)), .second] [(.long (0 : Int64)), (.long (y1 &&& ((0 : Int64) ^^^ (-1 : Int64))))]) _
          refine own_go (fun t_ k_ => XS.lcmp X32.here hx rfl (hb hby d5_57) rfl k_) ?_
          show own_G p.tables e below T32 (mkF m 58 #[.val (.ref a1), .val (.ref a2), .val (.int (1 : Int32)), .val (.long (0 : Int64)), .second] [(.int (lcmpW (y1 &&& ((0 : Int64) ^^^ (-1 : Int64))) (0 : Int64)))]) _
          by_cases hc58_34 : (y1 &&& ((0 : Int64) ^^^ (-1 : Int64))) = (0 : Int64)
          · skip
            refine own_go (fun t_ k_ => XS.ifYes X32.here hx rfl (pc0 := 58) (pc' := 63) rfl (hb hby d5_58) rfl ((if0 _ _).trans (teq ((lw_eq (y1 &&& ((0 : Int64) ^^^ (-1 : Int64))) (0 : Int64)).mpr hc58_34)).1) (by decide) (by decide) k_) ?_
            show own_G p.tables e below T32 (mkF m 63 #[.val (.ref a1), .val (.ref a2), .val (.int (1 : Int32)), .val (.long (0 : Int64)), .second] []) _
            refine own_go (fun t_ k_ => XS.iinc X32.here hx rfl (hb hby d5_63) rfl (l' := #[.val (.ref a1), .val (.ref a2), .val (.int (2 : Int32)), .val (.long (0 : Int64)), .second]) rfl k_) ?_
            show own_G p.tables e below T32 (mkF m 66 #[.val (.ref a1), .val (.ref a2), .val (.int (2 : Int32)), .val (.long (0 : Int64)), .second] []) _
            refine own_go (fun t_ k_ => XS.goto X32.here hx rfl (pc0 := 66) (pc' := 15) rfl (hb hby d5_66) (by decide) (by decide) k_) ?_
            show own_G p.tables e below T32 (mkF m 15 #[.val (.ref a1), .val (.ref a2), .val (.int (2 : Int32)), .val (.long (0 : Int64)), .second] []) _
            refine own_go (fun t_ k_ => XS.iloadN X32.here hx rfl (hb hby d5_15) rfl k_) ?_
            show own_G p.tables e below T32 (mkF m 16 #[.val (.ref a1), .val (.ref a2), .val (.int (2 : Int32)), .val (.long (0 : Int64)), .second] [(.int (2 : Int32))]) _
            refine own_go (fun t_ k_ => XS.aloadN X32.here hx rfl (hb hby d5_16) rfl rfl k_) ?_
            show own_G p.tables e below T32 (mkF m 17 #[.val (.ref a1), .val (.ref a2), .val (.int (2 : Int32)), .val (.long (0 : Int64)), .second] [(.ref a2), (.int (2 : Int32))]) _
            obtain ⟨T35, X35, e35, st35⟩ := getF X32 hx hZ hown (host := "") (Or.inl (hw _ (List.mem_of_getElem? (i := 29) rfl))) Via.refl e32 Gb (g := (mkF m 17 #[.val (.ref a1), .val (.ref a2), .val (.int (2 : Int32)), .val (.long (0 : Int64)), .second] [(.ref a2), (.int (2 : Int32))])) rfl rfl (hb hby d5_17)
            refine own_go st35 ?_
            show own_G p.tables e below T35 (mkF m 20 #[.val (.ref a1), .val (.ref a2), .val (.int (2 : Int32)), .val (.long (0 : Int64)), .second] [(.ref cb), (.int (2 : Int32))]) _
            obtain ⟨cl36, Ar36, -, S36, M36, H36, -⟩ := id Vb
            refine own_go (fun t_ k_ => X35.arraylength hx (by rw [e35]; exact Ar36.1) (State.isArrayOf_alike hZ.alike Ar36.2.1) (g := (mkF m 20 #[.val (.ref a1), .val (.ref a2), .val (.int (2 : Int32)), .val (.long (0 : Int64)), .second] [(.ref cb), (.int (2 : Int32))])) rfl rfl (hb hby d5_20) _ k_) ?_
            show own_G p.tables e below T35 (mkF m 21 #[.val (.ref a1), .val (.ref a2), .val (.int (2 : Int32)), .val (.long (0 : Int64)), .second] [(.int cl36.slots.size.toInt32), (.int (2 : Int32))]) _
            rw [len_of S36 M36]
            show own_G p.tables e below T35 (mkF m 21 #[.val (.ref a1), .val (.ref a2), .val (.int (2 : Int32)), .val (.long (0 : Int64)), .second] [(.int (2 : Int32)), (.int (2 : Int32))]) _
            refine own_go (fun t_ k_ => XS.icmpYes X35.here hx rfl (pc0 := 21) (pc' := 69) rfl (hb hby d5_21) rfl (flt (by decide : ¬ ((2 : Int32) < (2 : Int32)))).2.1 (by decide) (by decide) k_) ?_
            show own_G p.tables e below T35 (mkF m 69 #[.val (.ref a1), .val (.ref a2), .val (.int (2 : Int32)), .val (.long (0 : Int64)), .second] []) _
            refine own_go (fun t_ k_ => XS.iconst X35.here hx rfl (hb hby d5_69) k_) ?_
            show own_G p.tables e below T35 (mkF m 70 #[.val (.ref a1), .val (.ref a2), .val (.int (2 : Int32)), .val (.long (0 : Int64)), .second] [(.int (1 : Int32))]) _
            exact own_end (v := some (.int (1 : Int32))) X35 Bd.notSynchronized (fun h => by rw [Bd.returns] at h; cases h) (fun fs hr => retN X35 hx (z := (1 : Int32)) (t := .boolean) Bd.returns (by simp) (hb hby d5_70) hr) e35 ⟨congrArg (fun z => some (Value.int z)) (by rw [own_e0_0, own_e1_0, own_e0_2, own_e1_2]; unfold own_dom; rw [if_neg hc8_20, if_pos hc58_27, if_pos hc58_34]), N0, rfl⟩ (by decide) (by decide)
          · skip
            refine own_go (fun t_ k_ => XS.ifNo X32.here hx rfl (hb hby d5_58) rfl ((if0 _ _).trans (feq (mt (lw_eq (y1 &&& ((0 : Int64) ^^^ (-1 : Int64))) (0 : Int64)).mp hc58_34)).1) k_) ?_
            show own_G p.tables e below T32 (mkF m 61 #[.val (.ref a1), .val (.ref a2), .val (.int (1 : Int32)), .val (.long (0 : Int64)), .second] []) _
            refine own_go (fun t_ k_ => XS.iconst X32.here hx rfl (hb hby d5_61) k_) ?_
            show own_G p.tables e below T32 (mkF m 62 #[.val (.ref a1), .val (.ref a2), .val (.int (1 : Int32)), .val (.long (0 : Int64)), .second] [(.int (0 : Int32))]) _
            exact own_end (v := some (.int (0 : Int32))) X32 Bd.notSynchronized (fun h => by rw [Bd.returns] at h; cases h) (fun fs hr => retN X32 hx (z := (0 : Int32)) (t := .boolean) Bd.returns (by simp) (hb hby d5_62) hr) e32 ⟨congrArg (fun z => some (Value.int z)) (by rw [own_e0_0, own_e1_0, own_e0_2, own_e1_2]; unfold own_dom; rw [if_neg hc8_20, if_pos hc58_27, if_neg hc58_34]), N0, rfl⟩ (by decide) (by decide)
        · skip
          refine own_go (fun t_ k_ => XS.ifNo X25.here hx rfl (hb hby d5_58) rfl ((if0 _ _).trans (feq (mt (lw_eq (y0 &&& ((0 : Int64) ^^^ (-1 : Int64))) (0 : Int64)).mp hc58_27)).1) k_) ?_
          show own_G p.tables e below T25 (mkF m 61 #[.val (.ref a1), .val (.ref a2), .val (.int (0 : Int32)), .val (.long (0 : Int64)), .second] []) _
          refine own_go (fun t_ k_ => XS.iconst X25.here hx rfl (hb hby d5_61) k_) ?_
          show own_G p.tables e below T25 (mkF m 62 #[.val (.ref a1), .val (.ref a2), .val (.int (0 : Int32)), .val (.long (0 : Int64)), .second] [(.int (0 : Int32))]) _
          exact own_end (v := some (.int (0 : Int32))) X25 Bd.notSynchronized (fun h => by rw [Bd.returns] at h; cases h) (fun fs hr => retN X25 hx (z := (0 : Int32)) (t := .boolean) Bd.returns (by simp) (hb hby d5_62) hr) e25 ⟨congrArg (fun z => some (Value.int z)) (by rw [own_e0_0, own_e1_0, own_e0_2, own_e1_2]; unfold own_dom; rw [if_neg hc8_20, if_neg hc58_27]), N0, rfl⟩ (by decide) (by decide)
  · skip
    rw [own_c1] at Va
    rcases h2 with rfl | rfl | rfl
    · skip
      rw [own_c0] at Vb
      show own_G p.tables e below s₁ (mkF m 0 #[.val (.ref a1), .val (.ref a2), .unset, .unset, .unset] []) _
      refine own_go (fun t_ k_ => XS.aloadN X0.here hx rfl (hb hby d5_0) rfl rfl k_) ?_
      show own_G p.tables e below s₁ (mkF m 1 #[.val (.ref a1), .val (.ref a2), .unset, .unset, .unset] [(.ref a1)]) _
      obtain ⟨T37, X37, e37, st37⟩ := getF X0 hx hZ hown (host := "") (Or.inl (hw _ (List.mem_of_getElem? (i := 18) rfl))) Via.refl e0 Fa (g := (mkF m 1 #[.val (.ref a1), .val (.ref a2), .unset, .unset, .unset] [(.ref a1)])) rfl rfl (hb hby d5_1)
      refine own_go st37 ?_
      show own_G p.tables e below T37 (mkF m 4 #[.val (.ref a1), .val (.ref a2), .unset, .unset, .unset] [(.int la)]) _
      refine own_go (fun t_ k_ => XS.aloadN X37.here hx rfl (hb hby d5_4) rfl rfl k_) ?_
      show own_G p.tables e below T37 (mkF m 5 #[.val (.ref a1), .val (.ref a2), .unset, .unset, .unset] [(.ref a2), (.int la)]) _
      obtain ⟨T38, X38, e38, st38⟩ := getF X37 hx hZ hown (host := "") (Or.inl (hw _ (List.mem_of_getElem? (i := 18) rfl))) Via.refl e37 Fb (g := (mkF m 5 #[.val (.ref a1), .val (.ref a2), .unset, .unset, .unset] [(.ref a2), (.int la)])) rfl rfl (hb hby d5_5)
      refine own_go st38 ?_
      show own_G p.tables e below T38 (mkF m 8 #[.val (.ref a1), .val (.ref a2), .unset, .unset, .unset] [(.int lb), (.int la)]) _
      by_cases hc8_39 : la < lb
      · skip
        refine own_go (fun t_ k_ => XS.icmpNo X38.here hx rfl (hb hby d5_8) rfl (tlt hc8_39).2.1 k_) ?_
        show own_G p.tables e below T38 (mkF m 11 #[.val (.ref a1), .val (.ref a2), .unset, .unset, .unset] []) _
        refine own_go (fun t_ k_ => XS.iconst X38.here hx rfl (hb hby d5_11) k_) ?_
        show own_G p.tables e below T38 (mkF m 12 #[.val (.ref a1), .val (.ref a2), .unset, .unset, .unset] [(.int (0 : Int32))]) _
        exact own_end (v := some (.int (0 : Int32))) X38 Bd.notSynchronized (fun h => by rw [Bd.returns] at h; cases h) (fun fs hr => retN X38 hx (z := (0 : Int32)) (t := .boolean) Bd.returns (by simp) (hb hby d5_12) hr) e38 ⟨congrArg (fun z => some (Value.int z)) (by rw [own_e0_1, own_e1_1, own_e0_0, own_e1_0]; unfold own_dom; rw [if_pos hc8_39]), N0, rfl⟩ (by decide) (by decide)
      · skip
        refine own_go (fun t_ k_ => XS.icmpYes X38.here hx rfl (pc0 := 8) (pc' := 13) rfl (hb hby d5_8) rfl (flt hc8_39).2.1 (by decide) (by decide) k_) ?_
        show own_G p.tables e below T38 (mkF m 13 #[.val (.ref a1), .val (.ref a2), .unset, .unset, .unset] []) _
        refine own_go (fun t_ k_ => XS.iconst X38.here hx rfl (hb hby d5_13) k_) ?_
        show own_G p.tables e below T38 (mkF m 14 #[.val (.ref a1), .val (.ref a2), .unset, .unset, .unset] [(.int (0 : Int32))]) _
        refine own_go (fun t_ k_ => XS.istoreN X38.here hx rfl (hb hby d5_14) rfl (l' := #[.val (.ref a1), .val (.ref a2), .val (.int (0 : Int32)), .unset, .unset]) rfl k_) ?_
        show own_G p.tables e below T38 (mkF m 15 #[.val (.ref a1), .val (.ref a2), .val (.int (0 : Int32)), .unset, .unset] []) _
        refine own_go (fun t_ k_ => XS.iloadN X38.here hx rfl (hb hby d5_15) rfl k_) ?_
        show own_G p.tables e below T38 (mkF m 16 #[.val (.ref a1), .val (.ref a2), .val (.int (0 : Int32)), .unset, .unset] [(.int (0 : Int32))]) _
        refine own_go (fun t_ k_ => XS.aloadN X38.here hx rfl (hb hby d5_16) rfl rfl k_) ?_
        show own_G p.tables e below T38 (mkF m 17 #[.val (.ref a1), .val (.ref a2), .val (.int (0 : Int32)), .unset, .unset] [(.ref a2), (.int (0 : Int32))]) _
        obtain ⟨T40, X40, e40, st40⟩ := getF X38 hx hZ hown (host := "") (Or.inl (hw _ (List.mem_of_getElem? (i := 29) rfl))) Via.refl e38 Gb (g := (mkF m 17 #[.val (.ref a1), .val (.ref a2), .val (.int (0 : Int32)), .unset, .unset] [(.ref a2), (.int (0 : Int32))])) rfl rfl (hb hby d5_17)
        refine own_go st40 ?_
        show own_G p.tables e below T40 (mkF m 20 #[.val (.ref a1), .val (.ref a2), .val (.int (0 : Int32)), .unset, .unset] [(.ref cb), (.int (0 : Int32))]) _
        obtain ⟨cl41, Ar41, -, S41, M41, H41, -⟩ := id Vb
        refine own_go (fun t_ k_ => X40.arraylength hx (by rw [e40]; exact Ar41.1) (State.isArrayOf_alike hZ.alike Ar41.2.1) (g := (mkF m 20 #[.val (.ref a1), .val (.ref a2), .val (.int (0 : Int32)), .unset, .unset] [(.ref cb), (.int (0 : Int32))])) rfl rfl (hb hby d5_20) _ k_) ?_
        show own_G p.tables e below T40 (mkF m 21 #[.val (.ref a1), .val (.ref a2), .val (.int (0 : Int32)), .unset, .unset] [(.int cl41.slots.size.toInt32), (.int (0 : Int32))]) _
        rw [len_of S41 M41]
        show own_G p.tables e below T40 (mkF m 21 #[.val (.ref a1), .val (.ref a2), .val (.int (0 : Int32)), .unset, .unset] [(.int (0 : Int32)), (.int (0 : Int32))]) _
        refine own_go (fun t_ k_ => XS.icmpYes X40.here hx rfl (pc0 := 21) (pc' := 69) rfl (hb hby d5_21) rfl (flt (by decide : ¬ ((0 : Int32) < (0 : Int32)))).2.1 (by decide) (by decide) k_) ?_
        show own_G p.tables e below T40 (mkF m 69 #[.val (.ref a1), .val (.ref a2), .val (.int (0 : Int32)), .unset, .unset] []) _
        refine own_go (fun t_ k_ => XS.iconst X40.here hx rfl (hb hby d5_69) k_) ?_
        show own_G p.tables e below T40 (mkF m 70 #[.val (.ref a1), .val (.ref a2), .val (.int (0 : Int32)), .unset, .unset] [(.int (1 : Int32))]) _
        exact own_end (v := some (.int (1 : Int32))) X40 Bd.notSynchronized (fun h => by rw [Bd.returns] at h; cases h) (fun fs hr => retN X40 hx (z := (1 : Int32)) (t := .boolean) Bd.returns (by simp) (hb hby d5_70) hr) e40 ⟨congrArg (fun z => some (Value.int z)) (by rw [own_e0_1, own_e1_1, own_e0_0, own_e1_0]; unfold own_dom; rw [if_neg hc8_39, if_pos (own_z _), if_pos (own_z _)]), N0, rfl⟩ (by decide) (by decide)
    · skip
      rw [own_c1] at Vb
      show own_G p.tables e below s₁ (mkF m 0 #[.val (.ref a1), .val (.ref a2), .unset, .unset, .unset] []) _
      refine own_go (fun t_ k_ => XS.aloadN X0.here hx rfl (hb hby d5_0) rfl rfl k_) ?_
      show own_G p.tables e below s₁ (mkF m 1 #[.val (.ref a1), .val (.ref a2), .unset, .unset, .unset] [(.ref a1)]) _
      obtain ⟨T42, X42, e42, st42⟩ := getF X0 hx hZ hown (host := "") (Or.inl (hw _ (List.mem_of_getElem? (i := 18) rfl))) Via.refl e0 Fa (g := (mkF m 1 #[.val (.ref a1), .val (.ref a2), .unset, .unset, .unset] [(.ref a1)])) rfl rfl (hb hby d5_1)
      refine own_go st42 ?_
      show own_G p.tables e below T42 (mkF m 4 #[.val (.ref a1), .val (.ref a2), .unset, .unset, .unset] [(.int la)]) _
      refine own_go (fun t_ k_ => XS.aloadN X42.here hx rfl (hb hby d5_4) rfl rfl k_) ?_
      show own_G p.tables e below T42 (mkF m 5 #[.val (.ref a1), .val (.ref a2), .unset, .unset, .unset] [(.ref a2), (.int la)]) _
      obtain ⟨T43, X43, e43, st43⟩ := getF X42 hx hZ hown (host := "") (Or.inl (hw _ (List.mem_of_getElem? (i := 18) rfl))) Via.refl e42 Fb (g := (mkF m 5 #[.val (.ref a1), .val (.ref a2), .unset, .unset, .unset] [(.ref a2), (.int la)])) rfl rfl (hb hby d5_5)
      refine own_go st43 ?_
      show own_G p.tables e below T43 (mkF m 8 #[.val (.ref a1), .val (.ref a2), .unset, .unset, .unset] [(.int lb), (.int la)]) _
      by_cases hc8_44 : la < lb
      · skip
        refine own_go (fun t_ k_ => XS.icmpNo X43.here hx rfl (hb hby d5_8) rfl (tlt hc8_44).2.1 k_) ?_
        show own_G p.tables e below T43 (mkF m 11 #[.val (.ref a1), .val (.ref a2), .unset, .unset, .unset] []) _
        refine own_go (fun t_ k_ => XS.iconst X43.here hx rfl (hb hby d5_11) k_) ?_
        show own_G p.tables e below T43 (mkF m 12 #[.val (.ref a1), .val (.ref a2), .unset, .unset, .unset] [(.int (0 : Int32))]) _
        exact own_end (v := some (.int (0 : Int32))) X43 Bd.notSynchronized (fun h => by rw [Bd.returns] at h; cases h) (fun fs hr => retN X43 hx (z := (0 : Int32)) (t := .boolean) Bd.returns (by simp) (hb hby d5_12) hr) e43 ⟨congrArg (fun z => some (Value.int z)) (by rw [own_e0_1, own_e1_1, own_e0_1, own_e1_1]; unfold own_dom; rw [if_pos hc8_44]), N0, rfl⟩ (by decide) (by decide)
      · skip
        refine own_go (fun t_ k_ => XS.icmpYes X43.here hx rfl (pc0 := 8) (pc' := 13) rfl (hb hby d5_8) rfl (flt hc8_44).2.1 (by decide) (by decide) k_) ?_
        show own_G p.tables e below T43 (mkF m 13 #[.val (.ref a1), .val (.ref a2), .unset, .unset, .unset] []) _
        refine own_go (fun t_ k_ => XS.iconst X43.here hx rfl (hb hby d5_13) k_) ?_
        show own_G p.tables e below T43 (mkF m 14 #[.val (.ref a1), .val (.ref a2), .unset, .unset, .unset] [(.int (0 : Int32))]) _
        refine own_go (fun t_ k_ => XS.istoreN X43.here hx rfl (hb hby d5_14) rfl (l' := #[.val (.ref a1), .val (.ref a2), .val (.int (0 : Int32)), .unset, .unset]) rfl k_) ?_
        show own_G p.tables e below T43 (mkF m 15 #[.val (.ref a1), .val (.ref a2), .val (.int (0 : Int32)), .unset, .unset] []) _
        refine own_go (fun t_ k_ => XS.iloadN X43.here hx rfl (hb hby d5_15) rfl k_) ?_
        show own_G p.tables e below T43 (mkF m 16 #[.val (.ref a1), .val (.ref a2), .val (.int (0 : Int32)), .unset, .unset] [(.int (0 : Int32))]) _
        refine own_go (fun t_ k_ => XS.aloadN X43.here hx rfl (hb hby d5_16) rfl rfl k_) ?_
        show own_G p.tables e below T43 (mkF m 17 #[.val (.ref a1), .val (.ref a2), .val (.int (0 : Int32)), .unset, .unset] [(.ref a2), (.int (0 : Int32))]) _
        obtain ⟨T45, X45, e45, st45⟩ := getF X43 hx hZ hown (host := "") (Or.inl (hw _ (List.mem_of_getElem? (i := 29) rfl))) Via.refl e43 Gb (g := (mkF m 17 #[.val (.ref a1), .val (.ref a2), .val (.int (0 : Int32)), .unset, .unset] [(.ref a2), (.int (0 : Int32))])) rfl rfl (hb hby d5_17)
        refine own_go st45 ?_
        show own_G p.tables e below T45 (mkF m 20 #[.val (.ref a1), .val (.ref a2), .val (.int (0 : Int32)), .unset, .unset] [(.ref cb), (.int (0 : Int32))]) _
        obtain ⟨cl46, Ar46, -, S46, M46, H46, -⟩ := id Vb
        refine own_go (fun t_ k_ => X45.arraylength hx (by rw [e45]; exact Ar46.1) (State.isArrayOf_alike hZ.alike Ar46.2.1) (g := (mkF m 20 #[.val (.ref a1), .val (.ref a2), .val (.int (0 : Int32)), .unset, .unset] [(.ref cb), (.int (0 : Int32))])) rfl rfl (hb hby d5_20) _ k_) ?_
        show own_G p.tables e below T45 (mkF m 21 #[.val (.ref a1), .val (.ref a2), .val (.int (0 : Int32)), .unset, .unset] [(.int cl46.slots.size.toInt32), (.int (0 : Int32))]) _
        rw [len_of S46 M46]
        show own_G p.tables e below T45 (mkF m 21 #[.val (.ref a1), .val (.ref a2), .val (.int (0 : Int32)), .unset, .unset] [(.int (1 : Int32)), (.int (0 : Int32))]) _
        refine own_go (fun t_ k_ => XS.icmpNo X45.here hx rfl (hb hby d5_21) rfl (tlt (by decide : ((0 : Int32) < (1 : Int32)))).2.1 k_) ?_
        show own_G p.tables e below T45 (mkF m 24 #[.val (.ref a1), .val (.ref a2), .val (.int (0 : Int32)), .unset, .unset] []) _
        refine own_go (fun t_ k_ => XS.iloadN X45.here hx rfl (hb hby d5_24) rfl k_) ?_
        show own_G p.tables e below T45 (mkF m 25 #[.val (.ref a1), .val (.ref a2), .val (.int (0 : Int32)), .unset, .unset] [(.int (0 : Int32))]) _
        refine own_go (fun t_ k_ => XS.aloadN X45.here hx rfl (hb hby d5_25) rfl rfl k_) ?_
        show own_G p.tables e below T45 (mkF m 26 #[.val (.ref a1), .val (.ref a2), .val (.int (0 : Int32)), .unset, .unset] [(.ref a1), (.int (0 : Int32))]) _
        obtain ⟨T47, X47, e47, st47⟩ := getF X45 hx hZ hown (host := "") (Or.inl (hw _ (List.mem_of_getElem? (i := 29) rfl))) Via.refl e45 Ga (g := (mkF m 26 #[.val (.ref a1), .val (.ref a2), .val (.int (0 : Int32)), .unset, .unset] [(.ref a1), (.int (0 : Int32))])) rfl rfl (hb hby d5_26)
        refine own_go st47 ?_
        show own_G p.tables e below T47 (mkF m 29 #[.val (.ref a1), .val (.ref a2), .val (.int (0 : Int32)), .unset, .unset] [(.ref ca), (.int (0 : Int32))]) _
        obtain ⟨cl48, Ar48, -, S48, M48, H48, -⟩ := id Va
        refine own_go (fun t_ k_ => X47.arraylength hx (by rw [e47]; exact Ar48.1) (State.isArrayOf_alike hZ.alike Ar48.2.1) (g := (mkF m 29 #[.val (.ref a1), .val (.ref a2), .val (.int (0 : Int32)), .unset, .unset] [(.ref ca), (.int (0 : Int32))])) rfl rfl (hb hby d5_29) _ k_) ?_
        show own_G p.tables e below T47 (mkF m 30 #[.val (.ref a1), .val (.ref a2), .val (.int (0 : Int32)), .unset, .unset] [(.int cl48.slots.size.toInt32), (.int (0 : Int32))]) _
        rw [len_of S48 M48]
        show own_G p.tables e below T47 (mkF m 30 #[.val (.ref a1), .val (.ref a2), .val (.int (0 : Int32)), .unset, .unset] [(.int (1 : Int32)), (.int (0 : Int32))]) _
        refine own_go (fun t_ k_ => XS.icmpNo X47.here hx rfl (hb hby d5_30) rfl (tlt (by decide : ((0 : Int32) < (1 : Int32)))).2.1 k_) ?_
        show own_G p.tables e below T47 (mkF m 33 #[.val (.ref a1), .val (.ref a2), .val (.int (0 : Int32)), .unset, .unset] []) _
        refine own_go (fun t_ k_ => XS.aloadN X47.here hx rfl (hb hby d5_33) rfl rfl k_) ?_
        show own_G p.tables e below T47 (mkF m 34 #[.val (.ref a1), .val (.ref a2), .val (.int (0 : Int32)), .unset, .unset] [(.ref a1)]) _
        obtain ⟨T49, X49, e49, st49⟩ := getF X47 hx hZ hown (host := "") (Or.inl (hw _ (List.mem_of_getElem? (i := 29) rfl))) Via.refl e47 Ga (g := (mkF m 34 #[.val (.ref a1), .val (.ref a2), .val (.int (0 : Int32)), .unset, .unset] [(.ref a1)])) rfl rfl (hb hby d5_34)
        refine own_go st49 ?_
        show own_G p.tables e below T49 (mkF m 37 #[.val (.ref a1), .val (.ref a2), .val (.int (0 : Int32)), .unset, .unset] [(.ref ca)]) _
        refine own_go (fun t_ k_ => XS.iloadN X49.here hx rfl (hb hby d5_37) rfl k_) ?_
        show own_G p.tables e below T49 (mkF m 38 #[.val (.ref a1), .val (.ref a2), .val (.int (0 : Int32)), .unset, .unset] [(.int (0 : Int32)), (.ref ca)]) _
        obtain ⟨cl50, Ar50, -, S50, M50, H50, -⟩ := id Va
        have hin50_38 : ¬ ((0 : Int32) < 0 ∨ cl50.slots.size ≤ ((0 : Int32)).toNatClampNeg) := inb_of S50 ⟨by decide, by decide⟩
        refine own_go (fun t_ k_ => X49.laload hx (j := (0 : Int32)) (v := (.long x0)) (by rw [e49]; exact Ar50.1) (State.isArrayOf_alike hZ.alike Ar50.2.1) Ar50.2.2 hin50_38 (H50.at hin50_38 rfl) (g := (mkF m 38 #[.val (.ref a1), .val (.ref a2), .val (.int (0 : Int32)), .unset, .unset] [(.int (0 : Int32)), (.ref ca)])) rfl rfl (hb hby d5_38) _ k_) ?_
        show own_G p.tables e below T49 (mkF m 39 #[.val (.ref a1), .val (.ref a2), .val (.int (0 : Int32)), .unset, .unset] [(.long x0)]) _
        refine own_go (fun t_ k_ => XS.goto X49.here hx rfl (pc0 := 39) (pc' := 43) rfl (hb hby d5_39) (by decide) (by decide) k_) ?_
        show own_G p.tables e below T49 (mkF m 43 #[.val (.ref a1), .val (.ref a2), .val (.int (0 : Int32)), .unset, .unset] [(.long x0)]) _
        refine own_go (fun t_ k_ => XS.lstoreN X49.here hx rfl (hb hby d5_43) rfl (l' := #[.val (.ref a1), .val (.ref a2), .val (.int (0 : Int32)), .val (.long x0), .second]) rfl k_) ?_
        show own_G p.tables e below T49 (mkF m 44 #[.val (.ref a1), .val (.ref a2), .val (.int (0 : Int32)), .val (.long x0), .second] []) _
        refine own_go (fun t_ k_ => XS.aloadN X49.here hx rfl (hb hby d5_44) rfl rfl k_) ?_
        show own_G p.tables e below T49 (mkF m 45 #[.val (.ref a1), .val (.ref a2), .val (.int (0 : Int32)), .val (.long x0), .second] [(.ref a2)]) _
        obtain ⟨T51, X51, e51, st51⟩ := getF X49 hx hZ hown (host := "") (Or.inl (hw _ (List.mem_of_getElem? (i := 29) rfl))) Via.refl e49 Gb (g := (mkF m 45 #[.val (.ref a1), .val (.ref a2), .val (.int (0 : Int32)), .val (.long x0), .second] [(.ref a2)])) rfl rfl (hb hby d5_45)
        refine own_go st51 ?_
        show own_G p.tables e below T51 (mkF m 48 #[.val (.ref a1), .val (.ref a2), .val (.int (0 : Int32)), .val (.long x0), .second] [(.ref cb)]) _
        refine own_go (fun t_ k_ => XS.iloadN X51.here hx rfl (hb hby d5_48) rfl k_) ?_
        show own_G p.tables e below T51 (mkF m 49 #[.val (.ref a1), .val (.ref a2), .val (.int (0 : Int32)), .val (.long x0), .second] [(.int (0 : Int32)), (.ref cb)]) _
        obtain ⟨cl52, Ar52, -, S52, M52, H52, -⟩ := id Vb
        have hin52_49 : ¬ ((0 : Int32) < 0 ∨ cl52.slots.size ≤ ((0 : Int32)).toNatClampNeg) := inb_of S52 ⟨by decide, by decide⟩
        refine own_go (fun t_ k_ => X51.laload hx (j := (0 : Int32)) (v := (.long y0)) (by rw [e51]; exact Ar52.1) (State.isArrayOf_alike hZ.alike Ar52.2.1) Ar52.2.2 hin52_49 (H52.at hin52_49 rfl) (g := (mkF m 49 #[.val (.ref a1), .val (.ref a2), .val (.int (0 : Int32)), .val (.long x0), .second] [(.int (0 : Int32)), (.ref cb)])) rfl rfl (hb hby d5_49) _ k_) ?_
        show own_G p.tables e below T51 (mkF m 50 #[.val (.ref a1), .val (.ref a2), .val (.int (0 : Int32)), .val (.long x0), .second] [(.long y0)]) _
        refine own_go (fun t_ k_ => XS.lloadN X51.here hx rfl (hb hby d5_50) rfl k_) ?_
        show own_G p.tables e below T51 (mkF m 51 #[.val (.ref a1), .val (.ref a2), .val (.int (0 : Int32)), .val (.long x0), .second] [(.long x0), (.long y0)]) _
        refine own_go (fun t_ k_ => X51.ldc2Long hx hown (mvT hZ (hw _ (List.mem_of_getElem? (i := 36) rfl))) (g := (mkF m 51 #[.val (.ref a1), .val (.ref a2), .val (.int (0 : Int32)), .val (.long x0), .second] [(.long x0), (.long y0)])) rfl (hb hby d5_51) _ k_) ?_
        show own_G p.tables e below T51 (mkF m 54 #[.val (.ref a1), .val (.ref a2), .val (.int (0 : Int32)), .val (.long x0), .second] [(.long (-1 : Int64)), (.long x0), (.long y0)]) _
        refine own_go (fun t_ k_ => XS.lxor X51.here hx rfl (hb hby d5_54) rfl k_) ?_
        show own_G p.tables e below T51 (mkF m 55 #[.val (.ref a1), .val (.ref a2), .val (.int (0 : Int32)), .val (.long x0), .second] [(.long (x0 ^^^ (-1 : Int64))), (.long y0)]) _
        refine own_go (fun t_ k_ => XS.land X51.here hx rfl (hb hby d5_55) rfl k_) ?_
        show own_G p.tables e below T51 (mkF m 56 #[.val (.ref a1), .val (.ref a2), .val (.int (0 : Int32)), .val (.long x0), .second] [(.long (y0 &&& (x0 ^^^ (-1 : Int64))))]) _
        refine own_go (fun t_ k_ => XS.lconst X51.here hx rfl (hb hby d5_56) k_) ?_
        show own_G p.tables e below T51 (mkF m 57 #[.val (.ref a1), .val (.ref a2), .val (.int (0 : Int32)), .val (.long x0), .second] [(.long (0 : Int64)), (.long (y0 &&& (x0 ^^^ (-1 : Int64))))]) _
        refine own_go (fun t_ k_ => XS.lcmp X51.here hx rfl (hb hby d5_57) rfl k_) ?_
        show own_G p.tables e below T51 (mkF m 58 #[.val (.ref a1), .val (.ref a2), .val (.int (0 : Int32)), .val (.long x0), .second] [(.int (lcmpW (y0 &&& (x0 ^^^ (-1 : Int64))) (0 : Int64)))]) _
        by_cases hc58_53 : (y0 &&& (x0 ^^^ (-1 : Int64))) = (0 : Int64)
        · skip
          refine own_go (fun t_ k_ => XS.ifYes X51.here hx rfl (pc0 := 58) (pc' := 63) rfl (hb hby d5_58) rfl ((if0 _ _).trans (teq ((lw_eq (y0 &&& (x0 ^^^ (-1 : Int64))) (0 : Int64)).mpr hc58_53)).1) (by decide) (by decide) k_) ?_
          show own_G p.tables e below T51 (mkF m 63 #[.val (.ref a1), .val (.ref a2), .val (.int (0 : Int32)), .val (.long x0), .second] []) _
          refine own_go (fun t_ k_ => XS.iinc X51.here hx rfl (hb hby d5_63) rfl (l' := #[.val (.ref a1), .val (.ref a2), .val (.int (1 : Int32)), .val (.long x0), .second]) rfl k_) ?_
          show own_G p.tables e below T51 (mkF m 66 #[.val (.ref a1), .val (.ref a2), .val (.int (1 : Int32)), .val (.long x0), .second] []) _
          refine own_go (fun t_ k_ => XS.goto X51.here hx rfl (pc0 := 66) (pc' := 15) rfl (hb hby d5_66) (by decide) (by decide) k_) ?_
          show own_G p.tables e below T51 (mkF m 15 #[.val (.ref a1), .val (.ref a2), .val (.int (1 : Int32)), .val (.long x0), .second] []) _
          refine own_go (fun t_ k_ => XS.iloadN X51.here hx rfl (hb hby d5_15) rfl k_) ?_
          show own_G p.tables e below T51 (mkF m 16 #[.val (.ref a1), .val (.ref a2), .val (.int (1 : Int32)), .val (.long x0), .second] [(.int (1 : Int32))]) _
          refine own_go (fun t_ k_ => XS.aloadN X51.here hx rfl (hb hby d5_16) rfl rfl k_) ?_
          show own_G p.tables e below T51 (mkF m 17 #[.val (.ref a1), .val (.ref a2), .val (.int (1 : Int32)), .val (.long x0), .second] [(.ref a2), (.int (1 : Int32))]) _
          obtain ⟨T54, X54, e54, st54⟩ := getF X51 hx hZ hown (host := "") (Or.inl (hw _ (List.mem_of_getElem? (i := 29) rfl))) Via.refl e51 Gb (g := (mkF m 17 #[.val (.ref a1), .val (.ref a2), .val (.int (1 : Int32)), .val (.long x0), .second] [(.ref a2), (.int (1 : Int32))])) rfl rfl (hb hby d5_17)
          refine own_go st54 ?_
          show own_G p.tables e below T54 (mkF m 20 #[.val (.ref a1), .val (.ref a2), .val (.int (1 : Int32)), .val (.long x0), .second] [(.ref cb), (.int (1 : Int32))]) _
          obtain ⟨cl55, Ar55, -, S55, M55, H55, -⟩ := id Vb
          refine own_go (fun t_ k_ => X54.arraylength hx (by rw [e54]; exact Ar55.1) (State.isArrayOf_alike hZ.alike Ar55.2.1) (g := (mkF m 20 #[.val (.ref a1), .val (.ref a2), .val (.int (1 : Int32)), .val (.long x0), .second] [(.ref cb), (.int (1 : Int32))])) rfl rfl (hb hby d5_20) _ k_) ?_
          show own_G p.tables e below T54 (mkF m 21 #[.val (.ref a1), .val (.ref a2), .val (.int (1 : Int32)), .val (.long x0), .second] [(.int cl55.slots.size.toInt32), (.int (1 : Int32))]) _
          rw [len_of S55 M55]
          show own_G p.tables e below T54 (mkF m 21 #[.val (.ref a1), .val (.ref a2), .val (.int (1 : Int32)), .val (.long x0), .second] [(.int (1 : Int32)), (.int (1 : Int32))]) _
          refine own_go (fun t_ k_ => XS.icmpYes X54.here hx rfl (pc0 := 21) (pc' := 69) rfl (hb hby d5_21) rfl (flt (by decide : ¬ ((1 : Int32) < (1 : Int32)))).2.1 (by decide) (by decide) k_) ?_
          show own_G p.tables e below T54 (mkF m 69 #[.val (.ref a1), .val (.ref a2), .val (.int (1 : Int32)), .val (.long x0), .second] []) _
          refine own_go (fun t_ k_ => XS.iconst X54.here hx rfl (hb hby d5_69) k_) ?_
          show own_G p.tables e below T54 (mkF m 70 #[.val (.ref a1), .val (.ref a2), .val (.int (1 : Int32)), .val (.long x0), .second] [(.int (1 : Int32))]) _
          exact own_end (v := some (.int (1 : Int32))) X54 Bd.notSynchronized (fun h => by rw [Bd.returns] at h; cases h) (fun fs hr => retN X54 hx (z := (1 : Int32)) (t := .boolean) Bd.returns (by simp) (hb hby d5_70) hr) e54 ⟨congrArg (fun z => some (Value.int z)) (by rw [own_e0_1, own_e1_1, own_e0_1, own_e1_1]; unfold own_dom; rw [if_neg hc8_44, if_pos hc58_53, if_pos (own_z _)]), N0, rfl⟩ (by decide) (by decide)
        · skip
          refine own_go (fun t_ k_ => XS.ifNo X51.here hx rfl (hb hby d5_58) rfl ((if0 _ _).trans (feq (mt (lw_eq (y0 &&& (x0 ^^^ (-1 : Int64))) (0 : Int64)).mp hc58_53)).1) k_) ?_
          show own_G p.tables e below T51 (mkF m 61 #[.val (.ref a1), .val (.ref a2), .val (.int (0 : Int32)), .val (.long x0), .second] []) _
          refine own_go (fun t_ k_ => XS.iconst X51.here hx rfl (hb hby d5_61) k_) ?_
          show own_G p.tables e below T51 (mkF m 62 #[.val (.ref a1), .val (.ref a2), .val (.int (0 : Int32)), .val (.long x0), .second] [(.int (0 : Int32))]) _
          exact own_end (v := some (.int (0 : Int32))) X51 Bd.notSynchronized (fun h => by rw [Bd.returns] at h; cases h) (fun fs hr => retN X51 hx (z := (0 : Int32)) (t := .boolean) Bd.returns (by simp) (hb hby d5_62) hr) e51 ⟨congrArg (fun z => some (Value.int z)) (by rw [own_e0_1, own_e1_1, own_e0_1, own_e1_1]; unfold own_dom; rw [if_neg hc8_44, if_neg hc58_53]), N0, rfl⟩ (by decide) (by decide)
    · skip
      rw [own_c2] at Vb
      show own_G p.tables e below s₁ (mkF m 0 #[.val (.ref a1), .val (.ref a2), .unset, .unset, .unset] []) _
      refine own_go (fun t_ k_ => XS.aloadN X0.here hx rfl (hb hby d5_0) rfl rfl k_) ?_
      show own_G p.tables e below s₁ (mkF m 1 #[.val (.ref a1), .val (.ref a2), .unset, .unset, .unset] [(.ref a1)]) _
      obtain ⟨T56, X56, e56, st56⟩ := getF X0 hx hZ hown (host := "") (Or.inl (hw _ (List.mem_of_getElem? (i := 18) rfl))) Via.refl e0 Fa (g := (mkF m 1 #[.val (.ref a1), .val (.ref a2), .unset, .unset, .unset] [(.ref a1)])) rfl rfl (hb hby d5_1)
      refine own_go st56 ?_
      show own_G p.tables e below T56 (mkF m 4 #[.val (.ref a1), .val (.ref a2), .unset, .unset, .unset] [(.int la)]) _
      refine own_go (fun t_ k_ => XS.aloadN X56.here hx rfl (hb hby d5_4) rfl rfl k_) ?_
      show own_G p.tables e below T56 (mkF m 5 #[.val (.ref a1), .val (.ref a2), .unset, .unset, .unset] [(.ref a2), (.int la)]) _
      obtain ⟨T57, X57, e57, st57⟩ := getF X56 hx hZ hown (host := "") (Or.inl (hw _ (List.mem_of_getElem? (i := 18) rfl))) Via.refl e56 Fb (g := (mkF m 5 #[.val (.ref a1), .val (.ref a2), .unset, .unset, .unset] [(.ref a2), (.int la)])) rfl rfl (hb hby d5_5)
      refine own_go st57 ?_
      show own_G p.tables e below T57 (mkF m 8 #[.val (.ref a1), .val (.ref a2), .unset, .unset, .unset] [(.int lb), (.int la)]) _
      by_cases hc8_58 : la < lb
      · skip
        refine own_go (fun t_ k_ => XS.icmpNo X57.here hx rfl (hb hby d5_8) rfl (tlt hc8_58).2.1 k_) ?_
        show own_G p.tables e below T57 (mkF m 11 #[.val (.ref a1), .val (.ref a2), .unset, .unset, .unset] []) _
        refine own_go (fun t_ k_ => XS.iconst X57.here hx rfl (hb hby d5_11) k_) ?_
        show own_G p.tables e below T57 (mkF m 12 #[.val (.ref a1), .val (.ref a2), .unset, .unset, .unset] [(.int (0 : Int32))]) _
        exact own_end (v := some (.int (0 : Int32))) X57 Bd.notSynchronized (fun h => by rw [Bd.returns] at h; cases h) (fun fs hr => retN X57 hx (z := (0 : Int32)) (t := .boolean) Bd.returns (by simp) (hb hby d5_12) hr) e57 ⟨congrArg (fun z => some (Value.int z)) (by rw [own_e0_1, own_e1_1, own_e0_2, own_e1_2]; unfold own_dom; rw [if_pos hc8_58]), N0, rfl⟩ (by decide) (by decide)
      · skip
        refine own_go (fun t_ k_ => XS.icmpYes X57.here hx rfl (pc0 := 8) (pc' := 13) rfl (hb hby d5_8) rfl (flt hc8_58).2.1 (by decide) (by decide) k_) ?_
        show own_G p.tables e below T57 (mkF m 13 #[.val (.ref a1), .val (.ref a2), .unset, .unset, .unset] []) _
        refine own_go (fun t_ k_ => XS.iconst X57.here hx rfl (hb hby d5_13) k_) ?_
        show own_G p.tables e below T57 (mkF m 14 #[.val (.ref a1), .val (.ref a2), .unset, .unset, .unset] [(.int (0 : Int32))]) _
        refine own_go (fun t_ k_ => XS.istoreN X57.here hx rfl (hb hby d5_14) rfl (l' := #[.val (.ref a1), .val (.ref a2), .val (.int (0 : Int32)), .unset, .unset]) rfl k_) ?_
        show own_G p.tables e below T57 (mkF m 15 #[.val (.ref a1), .val (.ref a2), .val (.int (0 : Int32)), .unset, .unset] []) _
        refine own_go (fun t_ k_ => XS.iloadN X57.here hx rfl (hb hby d5_15) rfl k_) ?_
        show own_G p.tables e below T57 (mkF m 16 #[.val (.ref a1), .val (.ref a2), .val (.int (0 : Int32)), .unset, .unset] [(.int (0 : Int32))]) _
        refine own_go (fun t_ k_ => XS.aloadN X57.here hx rfl (hb hby d5_16) rfl rfl k_) ?_
        show own_G p.tables e below T57 (mkF m 17 #[.val (.ref a1), .val (.ref a2), .val (.int (0 : Int32)), .unset, .unset] [(.ref a2), (.int (0 : Int32))]) _
        obtain ⟨T59, X59, e59, st59⟩ := getF X57 hx hZ hown (host := "") (Or.inl (hw _ (List.mem_of_getElem? (i := 29) rfl))) Via.refl e57 Gb (g := (mkF m 17 #[.val (.ref a1), .val (.ref a2), .val (.int (0 : Int32)), .unset, .unset] [(.ref a2), (.int (0 : Int32))])) rfl rfl (hb hby d5_17)
        refine own_go st59 ?_
        show own_G p.tables e below T59 (mkF m 20 #[.val (.ref a1), .val (.ref a2), .val (.int (0 : Int32)), .unset, .unset] [(.ref cb), (.int (0 : Int32))]) _
        obtain ⟨cl60, Ar60, -, S60, M60, H60, -⟩ := id Vb
        refine own_go (fun t_ k_ => X59.arraylength hx (by rw [e59]; exact Ar60.1) (State.isArrayOf_alike hZ.alike Ar60.2.1) (g := (mkF m 20 #[.val (.ref a1), .val (.ref a2), .val (.int (0 : Int32)), .unset, .unset] [(.ref cb), (.int (0 : Int32))])) rfl rfl (hb hby d5_20) _ k_) ?_
        show own_G p.tables e below T59 (mkF m 21 #[.val (.ref a1), .val (.ref a2), .val (.int (0 : Int32)), .unset, .unset] [(.int cl60.slots.size.toInt32), (.int (0 : Int32))]) _
        rw [len_of S60 M60]
        show own_G p.tables e below T59 (mkF m 21 #[.val (.ref a1), .val (.ref a2), .val (.int (0 : Int32)), .unset, .unset] [(.int (2 : Int32)), (.int (0 : Int32))]) _
        refine own_go (fun t_ k_ => XS.icmpNo X59.here hx rfl (hb hby d5_21) rfl (tlt (by decide : ((0 : Int32) < (2 : Int32)))).2.1 k_) ?_
        show own_G p.tables e below T59 (mkF m 24 #[.val (.ref a1), .val (.ref a2), .val (.int (0 : Int32)), .unset, .unset] []) _
        refine own_go (fun t_ k_ => XS.iloadN X59.here hx rfl (hb hby d5_24) rfl k_) ?_
        show own_G p.tables e below T59 (mkF m 25 #[.val (.ref a1), .val (.ref a2), .val (.int (0 : Int32)), .unset, .unset] [(.int (0 : Int32))]) _
        refine own_go (fun t_ k_ => XS.aloadN X59.here hx rfl (hb hby d5_25) rfl rfl k_) ?_
        show own_G p.tables e below T59 (mkF m 26 #[.val (.ref a1), .val (.ref a2), .val (.int (0 : Int32)), .unset, .unset] [(.ref a1), (.int (0 : Int32))]) _
        obtain ⟨T61, X61, e61, st61⟩ := getF X59 hx hZ hown (host := "") (Or.inl (hw _ (List.mem_of_getElem? (i := 29) rfl))) Via.refl e59 Ga (g := (mkF m 26 #[.val (.ref a1), .val (.ref a2), .val (.int (0 : Int32)), .unset, .unset] [(.ref a1), (.int (0 : Int32))])) rfl rfl (hb hby d5_26)
        refine own_go st61 ?_
        show own_G p.tables e below T61 (mkF m 29 #[.val (.ref a1), .val (.ref a2), .val (.int (0 : Int32)), .unset, .unset] [(.ref ca), (.int (0 : Int32))]) _
        obtain ⟨cl62, Ar62, -, S62, M62, H62, -⟩ := id Va
        refine own_go (fun t_ k_ => X61.arraylength hx (by rw [e61]; exact Ar62.1) (State.isArrayOf_alike hZ.alike Ar62.2.1) (g := (mkF m 29 #[.val (.ref a1), .val (.ref a2), .val (.int (0 : Int32)), .unset, .unset] [(.ref ca), (.int (0 : Int32))])) rfl rfl (hb hby d5_29) _ k_) ?_
        show own_G p.tables e below T61 (mkF m 30 #[.val (.ref a1), .val (.ref a2), .val (.int (0 : Int32)), .unset, .unset] [(.int cl62.slots.size.toInt32), (.int (0 : Int32))]) _
        rw [len_of S62 M62]
        show own_G p.tables e below T61 (mkF m 30 #[.val (.ref a1), .val (.ref a2), .val (.int (0 : Int32)), .unset, .unset] [(.int (1 : Int32)), (.int (0 : Int32))]) _
        refine own_go (fun t_ k_ => XS.icmpNo X61.here hx rfl (hb hby d5_30) rfl (tlt (by decide : ((0 : Int32) < (1 : Int32)))).2.1 k_) ?_
        show own_G p.tables e below T61 (mkF m 33 #[.val (.ref a1), .val (.ref a2), .val (.int (0 : Int32)), .unset, .unset] []) _
        refine own_go (fun t_ k_ => XS.aloadN X61.here hx rfl (hb hby d5_33) rfl rfl k_) ?_
        show own_G p.tables e below T61 (mkF m 34 #[.val (.ref a1), .val (.ref a2), .val (.int (0 : Int32)), .unset, .unset] [(.ref a1)]) _
        obtain ⟨T63, X63, e63, st63⟩ := getF X61 hx hZ hown (host := "") (Or.inl (hw _ (List.mem_of_getElem? (i := 29) rfl))) Via.refl e61 Ga (g := (mkF m 34 #[.val (.ref a1), .val (.ref a2), .val (.int (0 : Int32)), .unset, .unset] [(.ref a1)])) rfl rfl (hb hby d5_34)
        refine own_go st63 ?_
        show own_G p.tables e below T63 (mkF m 37 #[.val (.ref a1), .val (.ref a2), .val (.int (0 : Int32)), .unset, .unset] [(.ref ca)]) _
        refine own_go (fun t_ k_ => XS.iloadN X63.here hx rfl (hb hby d5_37) rfl k_) ?_
        show own_G p.tables e below T63 (mkF m 38 #[.val (.ref a1), .val (.ref a2), .val (.int (0 : Int32)), .unset, .unset] [(.int (0 : Int32)), (.ref ca)]) _
        obtain ⟨cl64, Ar64, -, S64, M64, H64, -⟩ := id Va
        have hin64_38 : ¬ ((0 : Int32) < 0 ∨ cl64.slots.size ≤ ((0 : Int32)).toNatClampNeg) := inb_of S64 ⟨by decide, by decide⟩
        refine own_go (fun t_ k_ => X63.laload hx (j := (0 : Int32)) (v := (.long x0)) (by rw [e63]; exact Ar64.1) (State.isArrayOf_alike hZ.alike Ar64.2.1) Ar64.2.2 hin64_38 (H64.at hin64_38 rfl) (g := (mkF m 38 #[.val (.ref a1), .val (.ref a2), .val (.int (0 : Int32)), .unset, .unset] [(.int (0 : Int32)), (.ref ca)])) rfl rfl (hb hby d5_38) _ k_) ?_
        show own_G p.tables e below T63 (mkF m 39 #[.val (.ref a1), .val (.ref a2), .val (.int (0 : Int32)), .unset, .unset] [(.long x0)]) _
        refine own_go (fun t_ k_ => XS.goto X63.here hx rfl (pc0 := 39) (pc' := 43) rfl (hb hby d5_39) (by decide) (by decide) k_) ?_
        show own_G p.tables e below T63 (mkF m 43 #[.val (.ref a1), .val (.ref a2), .val (.int (0 : Int32)), .unset, .unset] [(.long x0)]) _
        refine own_go (fun t_ k_ => XS.lstoreN X63.here hx rfl (hb hby d5_43) rfl (l' := #[.val (.ref a1), .val (.ref a2), .val (.int (0 : Int32)), .val (.long x0), .second]) rfl k_) ?_
        show own_G p.tables e below T63 (mkF m 44 #[.val (.ref a1), .val (.ref a2), .val (.int (0 : Int32)), .val (.long x0), .second] []) _
        refine own_go (fun t_ k_ => XS.aloadN X63.here hx rfl (hb hby d5_44) rfl rfl k_) ?_
        show own_G p.tables e below T63 (mkF m 45 #[.val (.ref a1), .val (.ref a2), .val (.int (0 : Int32)), .val (.long x0), .second] [(.ref a2)]) _
        obtain ⟨T65, X65, e65, st65⟩ := getF X63 hx hZ hown (host := "") (Or.inl (hw _ (List.mem_of_getElem? (i := 29) rfl))) Via.refl e63 Gb (g := (mkF m 45 #[.val (.ref a1), .val (.ref a2), .val (.int (0 : Int32)), .val (.long x0), .second] [(.ref a2)])) rfl rfl (hb hby d5_45)
        refine own_go st65 ?_
        show own_G p.tables e below T65 (mkF m 48 #[.val (.ref a1), .val (.ref a2), .val (.int (0 : Int32)), .val (.long x0), .second] [(.ref cb)]) _
        refine own_go (fun t_ k_ => XS.iloadN X65.here hx rfl (hb hby d5_48) rfl k_) ?_
        show own_G p.tables e below T65 (mkF m 49 #[.val (.ref a1), .val (.ref a2), .val (.int (0 : Int32)), .val (.long x0), .second] [(.int (0 : Int32)), (.ref cb)]) _
        obtain ⟨cl66, Ar66, -, S66, M66, H66, -⟩ := id Vb
        have hin66_49 : ¬ ((0 : Int32) < 0 ∨ cl66.slots.size ≤ ((0 : Int32)).toNatClampNeg) := inb_of S66 ⟨by decide, by decide⟩
        refine own_go (fun t_ k_ => X65.laload hx (j := (0 : Int32)) (v := (.long y0)) (by rw [e65]; exact Ar66.1) (State.isArrayOf_alike hZ.alike Ar66.2.1) Ar66.2.2 hin66_49 (H66.at hin66_49 rfl) (g := (mkF m 49 #[.val (.ref a1), .val (.ref a2), .val (.int (0 : Int32)), .val (.long x0), .second] [(.int (0 : Int32)), (.ref cb)])) rfl rfl (hb hby d5_49) _ k_) ?_
        show own_G p.tables e below T65 (mkF m 50 #[.val (.ref a1), .val (.ref a2), .val (.int (0 : Int32)), .val (.long x0), .second] [(.long y0)]) _
        refine own_go (fun t_ k_ => XS.lloadN X65.here hx rfl (hb hby d5_50) rfl k_) ?_
        show own_G p.tables e below T65 (mkF m 51 #[.val (.ref a1), .val (.ref a2), .val (.int (0 : Int32)), .val (.long x0), .second] [(.long x0), (.long y0)]) _
        refine own_go (fun t_ k_ => X65.ldc2Long hx hown (mvT hZ (hw _ (List.mem_of_getElem? (i := 36) rfl))) (g := (mkF m 51 #[.val (.ref a1), .val (.ref a2), .val (.int (0 : Int32)), .val (.long x0), .second] [(.long x0), (.long y0)])) rfl (hb hby d5_51) _ k_) ?_
        show own_G p.tables e below T65 (mkF m 54 #[.val (.ref a1), .val (.ref a2), .val (.int (0 : Int32)), .val (.long x0), .second] [(.long (-1 : Int64)), (.long x0), (.long y0)]) _
        refine own_go (fun t_ k_ => XS.lxor X65.here hx rfl (hb hby d5_54) rfl k_) ?_
        show own_G p.tables e below T65 (mkF m 55 #[.val (.ref a1), .val (.ref a2), .val (.int (0 : Int32)), .val (.long x0), .second] [(.long (x0 ^^^ (-1 : Int64))), (.long y0)]) _
        refine own_go (fun t_ k_ => XS.land X65.here hx rfl (hb hby d5_55) rfl k_) ?_
        show own_G p.tables e below T65 (mkF m 56 #[.val (.ref a1), .val (.ref a2), .val (.int (0 : Int32)), .val (.long x0), .second] [(.long (y0 &&& (x0 ^^^ (-1 : Int64))))]) _
        refine own_go (fun t_ k_ => XS.lconst X65.here hx rfl (hb hby d5_56) k_) ?_
        show own_G p.tables e below T65 (mkF m 57 #[.val (.ref a1), .val (.ref a2), .val (.int (0 : Int32)), .val (.long x0), .second] [(.long (0 : Int64)), (.long (y0 &&& (x0 ^^^ (-1 : Int64))))]) _
        refine own_go (fun t_ k_ => XS.lcmp X65.here hx rfl (hb hby d5_57) rfl k_) ?_
        show own_G p.tables e below T65 (mkF m 58 #[.val (.ref a1), .val (.ref a2), .val (.int (0 : Int32)), .val (.long x0), .second] [(.int (lcmpW (y0 &&& (x0 ^^^ (-1 : Int64))) (0 : Int64)))]) _
        by_cases hc58_67 : (y0 &&& (x0 ^^^ (-1 : Int64))) = (0 : Int64)
        · skip
          refine own_go (fun t_ k_ => XS.ifYes X65.here hx rfl (pc0 := 58) (pc' := 63) rfl (hb hby d5_58) rfl ((if0 _ _).trans (teq ((lw_eq (y0 &&& (x0 ^^^ (-1 : Int64))) (0 : Int64)).mpr hc58_67)).1) (by decide) (by decide) k_) ?_
          show own_G p.tables e below T65 (mkF m 63 #[.val (.ref a1), .val (.ref a2), .val (.int (0 : Int32)), .val (.long x0), .second] []) _
          refine own_go (fun t_ k_ => XS.iinc X65.here hx rfl (hb hby d5_63) rfl (l' := #[.val (.ref a1), .val (.ref a2), .val (.int (1 : Int32)), .val (.long x0), .second]) rfl k_) ?_
          show own_G p.tables e below T65 (mkF m 66 #[.val (.ref a1), .val (.ref a2), .val (.int (1 : Int32)), .val (.long x0), .second] []) _
          refine own_go (fun t_ k_ => XS.goto X65.here hx rfl (pc0 := 66) (pc' := 15) rfl (hb hby d5_66) (by decide) (by decide) k_) ?_
          show own_G p.tables e below T65 (mkF m 15 #[.val (.ref a1), .val (.ref a2), .val (.int (1 : Int32)), .val (.long x0), .second] []) _
          refine own_go (fun t_ k_ => XS.iloadN X65.here hx rfl (hb hby d5_15) rfl k_) ?_
          show own_G p.tables e below T65 (mkF m 16 #[.val (.ref a1), .val (.ref a2), .val (.int (1 : Int32)), .val (.long x0), .second] [(.int (1 : Int32))]) _
          refine own_go (fun t_ k_ => XS.aloadN X65.here hx rfl (hb hby d5_16) rfl rfl k_) ?_
          show own_G p.tables e below T65 (mkF m 17 #[.val (.ref a1), .val (.ref a2), .val (.int (1 : Int32)), .val (.long x0), .second] [(.ref a2), (.int (1 : Int32))]) _
          obtain ⟨T68, X68, e68, st68⟩ := getF X65 hx hZ hown (host := "") (Or.inl (hw _ (List.mem_of_getElem? (i := 29) rfl))) Via.refl e65 Gb (g := (mkF m 17 #[.val (.ref a1), .val (.ref a2), .val (.int (1 : Int32)), .val (.long x0), .second] [(.ref a2), (.int (1 : Int32))])) rfl rfl (hb hby d5_17)
          refine own_go st68 ?_
          show own_G p.tables e below T68 (mkF m 20 #[.val (.ref a1), .val (.ref a2), .val (.int (1 : Int32)), .val (.long x0), .second] [(.ref cb), (.int (1 : Int32))]) _
          obtain ⟨cl69, Ar69, -, S69, M69, H69, -⟩ := id Vb
          refine own_go (fun t_ k_ => X68.arraylength hx (by rw [e68]; exact Ar69.1) (State.isArrayOf_alike hZ.alike Ar69.2.1) (g := (mkF m 20 #[.val (.ref a1), .val (.ref a2), .val (.int (1 : Int32)), .val (.long x0), .second] [(.ref cb), (.int (1 : Int32))])) rfl rfl (hb hby d5_20) _ k_) ?_
          show own_G p.tables e below T68 (mkF m 21 #[.val (.ref a1), .val (.ref a2), .val (.int (1 : Int32)), .val (.long x0), .second] [(.int cl69.slots.size.toInt32), (.int (1 : Int32))]) _
          rw [len_of S69 M69]
          show own_G p.tables e below T68 (mkF m 21 #[.val (.ref a1), .val (.ref a2), .val (.int (1 : Int32)), .val (.long x0), .second] [(.int (2 : Int32)), (.int (1 : Int32))]) _
          refine own_go (fun t_ k_ => XS.icmpNo X68.here hx rfl (hb hby d5_21) rfl (tlt (by decide : ((1 : Int32) < (2 : Int32)))).2.1 k_) ?_
          show own_G p.tables e below T68 (mkF m 24 #[.val (.ref a1), .val (.ref a2), .val (.int (1 : Int32)), .val (.long x0), .second] []) _
          refine own_go (fun t_ k_ => XS.iloadN X68.here hx rfl (hb hby d5_24) rfl k_) ?_
          show own_G p.tables e below T68 (mkF m 25 #[.val (.ref a1), .val (.ref a2), .val (.int (1 : Int32)), .val (.long x0), .second] [(.int (1 : Int32))]) _
          refine own_go (fun t_ k_ => XS.aloadN X68.here hx rfl (hb hby d5_25) rfl rfl k_) ?_
          show own_G p.tables e below T68 (mkF m 26 #[.val (.ref a1), .val (.ref a2), .val (.int (1 : Int32)), .val (.long x0), .second] [(.ref a1), (.int (1 : Int32))]) _
          obtain ⟨T70, X70, e70, st70⟩ := getF X68 hx hZ hown (host := "") (Or.inl (hw _ (List.mem_of_getElem? (i := 29) rfl))) Via.refl e68 Ga (g := (mkF m 26 #[.val (.ref a1), .val (.ref a2), .val (.int (1 : Int32)), .val (.long x0), .second] [(.ref a1), (.int (1 : Int32))])) rfl rfl (hb hby d5_26)
          refine own_go st70 ?_
          show own_G p.tables e below T70 (mkF m 29 #[.val (.ref a1), .val (.ref a2), .val (.int (1 : Int32)), .val (.long x0), .second] [(.ref ca), (.int (1 : Int32))]) _
          obtain ⟨cl71, Ar71, -, S71, M71, H71, -⟩ := id Va
          refine own_go (fun t_ k_ => X70.arraylength hx (by rw [e70]; exact Ar71.1) (State.isArrayOf_alike hZ.alike Ar71.2.1) (g := (mkF m 29 #[.val (.ref a1), .val (.ref a2), .val (.int (1 : Int32)), .val (.long x0), .second] [(.ref ca), (.int (1 : Int32))])) rfl rfl (hb hby d5_29) _ k_) ?_
          show own_G p.tables e below T70 (mkF m 30 #[.val (.ref a1), .val (.ref a2), .val (.int (1 : Int32)), .val (.long x0), .second] [(.int cl71.slots.size.toInt32), (.int (1 : Int32))]) _
          rw [len_of S71 M71]
          show own_G p.tables e below T70 (mkF m 30 #[.val (.ref a1), .val (.ref a2), .val (.int (1 : Int32)), .val (.long x0), .second] [(.int (1 : Int32)), (.int (1 : Int32))]) _
          refine own_go (fun t_ k_ => XS.icmpYes X70.here hx rfl (pc0 := 30) (pc' := 42) rfl (hb hby d5_30) rfl (flt (by decide : ¬ ((1 : Int32) < (1 : Int32)))).2.1 (by decide) (by decide) k_) ?_
          show own_G p.tables e below T70 (mkF m 42 #[.val (.ref a1), .val (.ref a2), .val (.int (1 : Int32)), .val (.long x0), .second] []) _
          refine own_go (fun t_ k_ => XS.lconst X70.here hx rfl (hb hby d5_42) k_) ?_
          show own_G p.tables e below T70 (mkF m 43 #[.val (.ref a1), .val (.ref a2), .val (.int (1 : Int32)), .val (.long x0), .second] [(.long (0 : Int64))]) _
          refine own_go (fun t_ k_ => XS.lstoreN X70.here hx rfl (hb hby d5_43) rfl (l' := #[.val (.ref a1), .val (.ref a2), .val (.int (1 : Int32)), .val (.long (0 : Int64)), .second]) rfl k_) ?_
          show own_G p.tables e below T70 (mkF m 44 #[.val (.ref a1), .val (.ref a2), .val (.int (1 : Int32)), .val (.long (0 : Int64)), .second] []) _
          refine own_go (fun t_ k_ => XS.aloadN X70.here hx rfl (hb hby d5_44) rfl rfl k_) ?_
          show own_G p.tables e below T70 (mkF m 45 #[.val (.ref a1), .val (.ref a2), .val (.int (1 : Int32)), .val (.long (0 : Int64)), .second] [(.ref a2)]) _
          obtain ⟨T72, X72, e72, st72⟩ := getF X70 hx hZ hown (host := "") (Or.inl (hw _ (List.mem_of_getElem? (i := 29) rfl))) Via.refl e70 Gb (g := (mkF m 45 #[.val (.ref a1), .val (.ref a2), .val (.int (1 : Int32)), .val (.long (0 : Int64)), .second] [(.ref a2)])) rfl rfl (hb hby d5_45)
          refine own_go st72 ?_
          show own_G p.tables e below T72 (mkF m 48 #[.val (.ref a1), .val (.ref a2), .val (.int (1 : Int32)), .val (.long (0 : Int64)), .second] [(.ref cb)]) _
          refine own_go (fun t_ k_ => XS.iloadN X72.here hx rfl (hb hby d5_48) rfl k_) ?_
          show own_G p.tables e below T72 (mkF m 49 #[.val (.ref a1), .val (.ref a2), .val (.int (1 : Int32)), .val (.long (0 : Int64)), .second] [(.int (1 : Int32)), (.ref cb)]) _
          obtain ⟨cl73, Ar73, -, S73, M73, H73, -⟩ := id Vb
          have hin73_49 : ¬ ((1 : Int32) < 0 ∨ cl73.slots.size ≤ ((1 : Int32)).toNatClampNeg) := inb_of S73 ⟨by decide, by decide⟩
          refine own_go (fun t_ k_ => X72.laload hx (j := (1 : Int32)) (v := (.long y1)) (by rw [e72]; exact Ar73.1) (State.isArrayOf_alike hZ.alike Ar73.2.1) Ar73.2.2 hin73_49 (H73.at hin73_49 rfl) (g := (mkF m 49 #[.val (.ref a1), .val (.ref a2), .val (.int (1 : Int32)), .val (.long (0 : Int64)), .second] [(.int (1 : Int32)), (.ref cb)])) rfl rfl (hb hby d5_49) _ k_) ?_
          show own_G p.tables e below T72 (mkF m 50 #[.val (.ref a1), .val (.ref a2), .val (.int (1 : Int32)), .val (.long (0 : Int64)), .second] [(.long y1)]) _
          refine own_go (fun t_ k_ => XS.lloadN X72.here hx rfl (hb hby d5_50) rfl k_) ?_
          show own_G p.tables e below T72 (mkF m 51 #[.val (.ref a1), .val (.ref a2), .val (.int (1 : Int32)), .val (.long (0 : Int64)), .second] [(.long (0 : Int64)), (.long y1)]) _
          refine own_go (fun t_ k_ => X72.ldc2Long hx hown (mvT hZ (hw _ (List.mem_of_getElem? (i := 36) rfl))) (g := (mkF m 51 #[.val (.ref a1), .val (.ref a2), .val (.int (1 : Int32)), .val (.long (0 : Int64)), .second] [(.long (0 : Int64)), (.long y1)])) rfl (hb hby d5_51) _ k_) ?_
          show own_G p.tables e below T72 (mkF m 54 #[.val (.ref a1), .val (.ref a2), .val (.int (1 : Int32)), .val (.long (0 : Int64)), .second] [(.long (-1 : Int64)), (.long (0 : Int64)), (.long y1)]) _
          refine own_go (fun t_ k_ => XS.lxor X72.here hx rfl (hb hby d5_54) rfl k_) ?_
          show own_G p.tables e below T72 (mkF m 55 #[.val (.ref a1), .val (.ref a2), .val (.int (1 : Int32)), .val (.long (0 : Int64)), .second] [(.long ((0 : Int64) ^^^ (-1 : Int64))), (.long y1)]) _
          refine own_go (fun t_ k_ => XS.land X72.here hx rfl (hb hby d5_55) rfl k_) ?_
          show own_G p.tables e below T72 (mkF m 56 #[.val (.ref a1), .val (.ref a2), .val (.int (1 : Int32)), .val (.long (0 : Int64)), .second] [(.long (y1 &&& ((0 : Int64) ^^^ (-1 : Int64))))]) _
          refine own_go (fun t_ k_ => XS.lconst X72.here hx rfl (hb hby d5_56) k_) ?_
          show own_G p.tables e below T72 (mkF m 57 #[.val (.ref a1), .val (.ref a2), .val (.int (1 : Int32)), .val (.long (0 : Int64)), .second] [(.long (0 : Int64)), (.long (y1 &&& ((0 : Int64) ^^^ (-1 : Int64))))]) _
          refine own_go (fun t_ k_ => XS.lcmp X72.here hx rfl (hb hby d5_57) rfl k_) ?_
          show own_G p.tables e below T72 (mkF m 58 #[.val (.ref a1), .val (.ref a2), .val (.int (1 : Int32)), .val (.long (0 : Int64)), .second] [(.int (lcmpW (y1 &&& ((0 : Int64) ^^^ (-1 : Int64))) (0 : Int64)))]) _
          by_cases hc58_74 : (y1 &&& ((0 : Int64) ^^^ (-1 : Int64))) = (0 : Int64)
          · skip
            refine own_go (fun t_ k_ => XS.ifYes X72.here hx rfl (pc0 := 58) (pc' := 63) rfl (hb hby d5_58) rfl ((if0 _ _).trans (teq ((lw_eq (y1 &&& ((0 : Int64) ^^^ (-1 : Int64))) (0 : Int64)).mpr hc58_74)).1) (by decide) (by decide) k_) ?_
            show own_G p.tables e below T72 (mkF m 63 #[.val (.ref a1), .val (.ref a2), .val (.int (1 : Int32)), .val (.long (0 : Int64)), .second] []) _
            refine own_go (fun t_ k_ => XS.iinc X72.here hx rfl (hb hby d5_63) rfl (l' := #[.val (.ref a1), .val (.ref a2), .val (.int (2 : Int32)), .val (.long (0 : Int64)), .second]) rfl k_) ?_
            show own_G p.tables e below T72 (mkF m 66 #[.val (.ref a1), .val (.ref a2), .val (.int (2 : Int32)), .val (.long (0 : Int64)), .second] []) _
            refine own_go (fun t_ k_ => XS.goto X72.here hx rfl (pc0 := 66) (pc' := 15) rfl (hb hby d5_66) (by decide) (by decide) k_) ?_
            show own_G p.tables e below T72 (mkF m 15 #[.val (.ref a1), .val (.ref a2), .val (.int (2 : Int32)), .val (.long (0 : Int64)), .second] []) _
            refine own_go (fun t_ k_ => XS.iloadN X72.here hx rfl (hb hby d5_15) rfl k_) ?_
            show own_G p.tables e below T72 (mkF m 16 #[.val (.ref a1), .val (.ref a2), .val (.int (2 : Int32)), .val (.long (0 : Int64)), .second] [(.int (2 : Int32))]) _
            refine own_go (fun t_ k_ => XS.aloadN X72.here hx rfl (hb hby d5_16) rfl rfl k_) ?_
            show own_G p.tables e below T72 (mkF m 17 #[.val (.ref a1), .val (.ref a2), .val (.int (2 : Int32)), .val (.long (0 : Int64)), .second] [(.ref a2), (.int (2 : Int32))]) _
            obtain ⟨T75, X75, e75, st75⟩ := getF X72 hx hZ hown (host := "") (Or.inl (hw _ (List.mem_of_getElem? (i := 29) rfl))) Via.refl e72 Gb (g := (mkF m 17 #[.val (.ref a1), .val (.ref a2), .val (.int (2 : Int32)), .val (.long (0 : Int64)), .second] [(.ref a2), (.int (2 : Int32))])) rfl rfl (hb hby d5_17)
            refine own_go st75 ?_
            show own_G p.tables e below T75 (mkF m 20 #[.val (.ref a1), .val (.ref a2), .val (.int (2 : Int32)), .val (.long (0 : Int64)), .second] [(.ref cb), (.int (2 : Int32))]) _
            obtain ⟨cl76, Ar76, -, S76, M76, H76, -⟩ := id Vb
            refine own_go (fun t_ k_ => X75.arraylength hx (by rw [e75]; exact Ar76.1) (State.isArrayOf_alike hZ.alike Ar76.2.1) (g := (mkF m 20 #[.val (.ref a1), .val (.ref a2), .val (.int (2 : Int32)), .val (.long (0 : Int64)), .second] [(.ref cb), (.int (2 : Int32))])) rfl rfl (hb hby d5_20) _ k_) ?_
            show own_G p.tables e below T75 (mkF m 21 #[.val (.ref a1), .val (.ref a2), .val (.int (2 : Int32)), .val (.long (0 : Int64)), .second] [(.int cl76.slots.size.toInt32), (.int (2 : Int32))]) _
            rw [len_of S76 M76]
            show own_G p.tables e below T75 (mkF m 21 #[.val (.ref a1), .val (.ref a2), .val (.int (2 : Int32)), .val (.long (0 : Int64)), .second] [(.int (2 : Int32)), (.int (2 : Int32))]) _
            refine own_go (fun t_ k_ => XS.icmpYes X75.here hx rfl (pc0 := 21) (pc' := 69) rfl (hb hby d5_21) rfl (flt (by decide : ¬ ((2 : Int32) < (2 : Int32)))).2.1 (by decide) (by decide) k_) ?_
            show own_G p.tables e below T75 (mkF m 69 #[.val (.ref a1), .val (.ref a2), .val (.int (2 : Int32)), .val (.long (0 : Int64)), .second] []) _
            refine own_go (fun t_ k_ => XS.iconst X75.here hx rfl (hb hby d5_69) k_) ?_
            show own_G p.tables e below T75 (mkF m 70 #[.val (.ref a1), .val (.ref a2), .val (.int (2 : Int32)), .val (.long (0 : Int64)), .second] [(.int (1 : Int32))]) _
            exact own_end (v := some (.int (1 : Int32))) X75 Bd.notSynchronized (fun h => by rw [Bd.returns] at h; cases h) (fun fs hr => retN X75 hx (z := (1 : Int32)) (t := .boolean) Bd.returns (by simp) (hb hby d5_70) hr) e75 ⟨congrArg (fun z => some (Value.int z)) (by rw [own_e0_1, own_e1_1, own_e0_2, own_e1_2]; unfold own_dom; rw [if_neg hc8_58, if_pos hc58_67, if_pos hc58_74]), N0, rfl⟩ (by decide) (by decide)
          · skip
            refine own_go (fun t_ k_ => XS.ifNo X72.here hx rfl (hb hby d5_58) rfl ((if0 _ _).trans (feq (mt (lw_eq (y1 &&& ((0 : Int64) ^^^ (-1 : Int64))) (0 : Int64)).mp hc58_74)).1) k_) ?_
            show own_G p.tables e below T72 (mkF m 61 #[.val (.ref a1), .val (.ref a2), .val (.int (1 : Int32)), .val (.long (0 : Int64)), .second] []) _
            refine own_go (fun t_ k_ => XS.iconst X72.here hx rfl (hb hby d5_61) k_) ?_
            show own_G p.tables e below T72 (mkF m 62 #[.val (.ref a1), .val (.ref a2), .val (.int (1 : Int32)), .val (.long (0 : Int64)), .second] [(.int (0 : Int32))]) _
            exact own_end (v := some (.int (0 : Int32))) X72 Bd.notSynchronized (fun h => by rw [Bd.returns] at h; cases h) (fun fs hr => retN X72 hx (z := (0 : Int32)) (t := .boolean) Bd.returns (by simp) (hb hby d5_62) hr) e72 ⟨congrArg (fun z => some (Value.int z)) (by rw [own_e0_1, own_e1_1, own_e0_2, own_e1_2]; unfold own_dom; rw [if_neg hc8_58, if_pos hc58_67, if_neg hc58_74]), N0, rfl⟩ (by decide) (by decide)
        · skip
          refine own_go (fun t_ k_ => XS.ifNo X65.here hx rfl (hb hby d5_58) rfl ((if0 _ _).trans (feq (mt (lw_eq (y0 &&& (x0 ^^^ (-1 : Int64))) (0 : Int64)).mp hc58_67)).1) k_) ?_
          show own_G p.tables e below T65 (mkF m 61 #[.val (.ref a1), .val (.ref a2), .val (.int (0 : Int32)), .val (.long x0), .second] []) _
          refine own_go (fun t_ k_ => XS.iconst X65.here hx rfl (hb hby d5_61) k_) ?_
          show own_G p.tables e below T65 (mkF m 62 #[.val (.ref a1), .val (.ref a2), .val (.int (0 : Int32)), .val (.long x0), .second] [(.int (0 : Int32))]) _
          exact own_end (v := some (.int (0 : Int32))) X65 Bd.notSynchronized (fun h => by rw [Bd.returns] at h; cases h) (fun fs hr => retN X65 hx (z := (0 : Int32)) (t := .boolean) Bd.returns (by simp) (hb hby d5_62) hr) e65 ⟨congrArg (fun z => some (Value.int z)) (by rw [own_e0_1, own_e1_1, own_e0_2, own_e1_2]; unfold own_dom; rw [if_neg hc8_58, if_neg hc58_67]), N0, rfl⟩ (by decide) (by decide)
  · skip
    rw [own_c2] at Va
    rcases h2 with rfl | rfl | rfl
    · skip
      rw [own_c0] at Vb
      show own_G p.tables e below s₁ (mkF m 0 #[.val (.ref a1), .val (.ref a2), .unset, .unset, .unset] []) _
      refine own_go (fun t_ k_ => XS.aloadN X0.here hx rfl (hb hby d5_0) rfl rfl k_) ?_
      show own_G p.tables e below s₁ (mkF m 1 #[.val (.ref a1), .val (.ref a2), .unset, .unset, .unset] [(.ref a1)]) _
      obtain ⟨T77, X77, e77, st77⟩ := getF X0 hx hZ hown (host := "") (Or.inl (hw _ (List.mem_of_getElem? (i := 18) rfl))) Via.refl e0 Fa (g := (mkF m 1 #[.val (.ref a1), .val (.ref a2), .unset, .unset, .unset] [(.ref a1)])) rfl rfl (hb hby d5_1)
      refine own_go st77 ?_
      show own_G p.tables e below T77 (mkF m 4 #[.val (.ref a1), .val (.ref a2), .unset, .unset, .unset] [(.int la)]) _
      refine own_go (fun t_ k_ => XS.aloadN X77.here hx rfl (hb hby d5_4) rfl rfl k_) ?_
      show own_G p.tables e below T77 (mkF m 5 #[.val (.ref a1), .val (.ref a2), .unset, .unset, .unset] [(.ref a2), (.int la)]) _
      obtain ⟨T78, X78, e78, st78⟩ := getF X77 hx hZ hown (host := "") (Or.inl (hw _ (List.mem_of_getElem? (i := 18) rfl))) Via.refl e77 Fb (g := (mkF m 5 #[.val (.ref a1), .val (.ref a2), .unset, .unset, .unset] [(.ref a2), (.int la)])) rfl rfl (hb hby d5_5)
      refine own_go st78 ?_
      show own_G p.tables e below T78 (mkF m 8 #[.val (.ref a1), .val (.ref a2), .unset, .unset, .unset] [(.int lb), (.int la)]) _
      by_cases hc8_79 : la < lb
      · skip
        refine own_go (fun t_ k_ => XS.icmpNo X78.here hx rfl (hb hby d5_8) rfl (tlt hc8_79).2.1 k_) ?_
        show own_G p.tables e below T78 (mkF m 11 #[.val (.ref a1), .val (.ref a2), .unset, .unset, .unset] []) _
        refine own_go (fun t_ k_ => XS.iconst X78.here hx rfl (hb hby d5_11) k_) ?_
        show own_G p.tables e below T78 (mkF m 12 #[.val (.ref a1), .val (.ref a2), .unset, .unset, .unset] [(.int (0 : Int32))]) _
        exact own_end (v := some (.int (0 : Int32))) X78 Bd.notSynchronized (fun h => by rw [Bd.returns] at h; cases h) (fun fs hr => retN X78 hx (z := (0 : Int32)) (t := .boolean) Bd.returns (by simp) (hb hby d5_12) hr) e78 ⟨congrArg (fun z => some (Value.int z)) (by rw [own_e0_2, own_e1_2, own_e0_0, own_e1_0]; unfold own_dom; rw [if_pos hc8_79]), N0, rfl⟩ (by decide) (by decide)
      · skip
        refine own_go (fun t_ k_ => XS.icmpYes X78.here hx rfl (pc0 := 8) (pc' := 13) rfl (hb hby d5_8) rfl (flt hc8_79).2.1 (by decide) (by decide) k_) ?_
        show own_G p.tables e below T78 (mkF m 13 #[.val (.ref a1), .val (.ref a2), .unset, .unset, .unset] []) _
        refine own_go (fun t_ k_ => XS.iconst X78.here hx rfl (hb hby d5_13) k_) ?_
        show own_G p.tables e below T78 (mkF m 14 #[.val (.ref a1), .val (.ref a2), .unset, .unset, .unset] [(.int (0 : Int32))]) _
        refine own_go (fun t_ k_ => XS.istoreN X78.here hx rfl (hb hby d5_14) rfl (l' := #[.val (.ref a1), .val (.ref a2), .val (.int (0 : Int32)), .unset, .unset]) rfl k_) ?_
        show own_G p.tables e below T78 (mkF m 15 #[.val (.ref a1), .val (.ref a2), .val (.int (0 : Int32)), .unset, .unset] []) _
        refine own_go (fun t_ k_ => XS.iloadN X78.here hx rfl (hb hby d5_15) rfl k_) ?_
        show own_G p.tables e below T78 (mkF m 16 #[.val (.ref a1), .val (.ref a2), .val (.int (0 : Int32)), .unset, .unset] [(.int (0 : Int32))]) _
        refine own_go (fun t_ k_ => XS.aloadN X78.here hx rfl (hb hby d5_16) rfl rfl k_) ?_
        show own_G p.tables e below T78 (mkF m 17 #[.val (.ref a1), .val (.ref a2), .val (.int (0 : Int32)), .unset, .unset] [(.ref a2), (.int (0 : Int32))]) _
        obtain ⟨T80, X80, e80, st80⟩ := getF X78 hx hZ hown (host := "") (Or.inl (hw _ (List.mem_of_getElem? (i := 29) rfl))) Via.refl e78 Gb (g := (mkF m 17 #[.val (.ref a1), .val (.ref a2), .val (.int (0 : Int32)), .unset, .unset] [(.ref a2), (.int (0 : Int32))])) rfl rfl (hb hby d5_17)
        refine own_go st80 ?_
        show own_G p.tables e below T80 (mkF m 20 #[.val (.ref a1), .val (.ref a2), .val (.int (0 : Int32)), .unset, .unset] [(.ref cb), (.int (0 : Int32))]) _
        obtain ⟨cl81, Ar81, -, S81, M81, H81, -⟩ := id Vb
        refine own_go (fun t_ k_ => X80.arraylength hx (by rw [e80]; exact Ar81.1) (State.isArrayOf_alike hZ.alike Ar81.2.1) (g := (mkF m 20 #[.val (.ref a1), .val (.ref a2), .val (.int (0 : Int32)), .unset, .unset] [(.ref cb), (.int (0 : Int32))])) rfl rfl (hb hby d5_20) _ k_) ?_
        show own_G p.tables e below T80 (mkF m 21 #[.val (.ref a1), .val (.ref a2), .val (.int (0 : Int32)), .unset, .unset] [(.int cl81.slots.size.toInt32), (.int (0 : Int32))]) _
        rw [len_of S81 M81]
        show own_G p.tables e below T80 (mkF m 21 #[.val (.ref a1), .val (.ref a2), .val (.int (0 : Int32)), .unset, .unset] [(.int (0 : Int32)), (.int (0 : Int32))]) _
        refine own_go (fun t_ k_ => XS.icmpYes X80.here hx rfl (pc0 := 21) (pc' := 69) rfl (hb hby d5_21) rfl (flt (by decide : ¬ ((0 : Int32) < (0 : Int32)))).2.1 (by decide) (by decide) k_) ?_
        show own_G p.tables e below T80 (mkF m 69 #[.val (.ref a1), .val (.ref a2), .val (.int (0 : Int32)), .unset, .unset] []) _
        refine own_go (fun t_ k_ => XS.iconst X80.here hx rfl (hb hby d5_69) k_) ?_
        show own_G p.tables e below T80 (mkF m 70 #[.val (.ref a1), .val (.ref a2), .val (.int (0 : Int32)), .unset, .unset] [(.int (1 : Int32))]) _
        exact own_end (v := some (.int (1 : Int32))) X80 Bd.notSynchronized (fun h => by rw [Bd.returns] at h; cases h) (fun fs hr => retN X80 hx (z := (1 : Int32)) (t := .boolean) Bd.returns (by simp) (hb hby d5_70) hr) e80 ⟨congrArg (fun z => some (Value.int z)) (by rw [own_e0_2, own_e1_2, own_e0_0, own_e1_0]; unfold own_dom; rw [if_neg hc8_79, if_pos (own_z _), if_pos (own_z _)]), N0, rfl⟩ (by decide) (by decide)
    · skip
      rw [own_c1] at Vb
      show own_G p.tables e below s₁ (mkF m 0 #[.val (.ref a1), .val (.ref a2), .unset, .unset, .unset] []) _
      refine own_go (fun t_ k_ => XS.aloadN X0.here hx rfl (hb hby d5_0) rfl rfl k_) ?_
      show own_G p.tables e below s₁ (mkF m 1 #[.val (.ref a1), .val (.ref a2), .unset, .unset, .unset] [(.ref a1)]) _
      obtain ⟨T82, X82, e82, st82⟩ := getF X0 hx hZ hown (host := "") (Or.inl (hw _ (List.mem_of_getElem? (i := 18) rfl))) Via.refl e0 Fa (g := (mkF m 1 #[.val (.ref a1), .val (.ref a2), .unset, .unset, .unset] [(.ref a1)])) rfl rfl (hb hby d5_1)
      refine own_go st82 ?_
      show own_G p.tables e below T82 (mkF m 4 #[.val (.ref a1), .val (.ref a2), .unset, .unset, .unset] [(.int la)]) _
      refine own_go (fun t_ k_ => XS.aloadN X82.here hx rfl (hb hby d5_4) rfl rfl k_) ?_
      show own_G p.tables e below T82 (mkF m 5 #[.val (.ref a1), .val (.ref a2), .unset, .unset, .unset] [(.ref a2), (.int la)]) _
      obtain ⟨T83, X83, e83, st83⟩ := getF X82 hx hZ hown (host := "") (Or.inl (hw _ (List.mem_of_getElem? (i := 18) rfl))) Via.refl e82 Fb (g := (mkF m 5 #[.val (.ref a1), .val (.ref a2), .unset, .unset, .unset] [(.ref a2), (.int la)])) rfl rfl (hb hby d5_5)
      refine own_go st83 ?_
      show own_G p.tables e below T83 (mkF m 8 #[.val (.ref a1), .val (.ref a2), .unset, .unset, .unset] [(.int lb), (.int la)]) _
      by_cases hc8_84 : la < lb
      · skip
        refine own_go (fun t_ k_ => XS.icmpNo X83.here hx rfl (hb hby d5_8) rfl (tlt hc8_84).2.1 k_) ?_
        show own_G p.tables e below T83 (mkF m 11 #[.val (.ref a1), .val (.ref a2), .unset, .unset, .unset] []) _
        refine own_go (fun t_ k_ => XS.iconst X83.here hx rfl (hb hby d5_11) k_) ?_
        show own_G p.tables e below T83 (mkF m 12 #[.val (.ref a1), .val (.ref a2), .unset, .unset, .unset] [(.int (0 : Int32))]) _
        exact own_end (v := some (.int (0 : Int32))) X83 Bd.notSynchronized (fun h => by rw [Bd.returns] at h; cases h) (fun fs hr => retN X83 hx (z := (0 : Int32)) (t := .boolean) Bd.returns (by simp) (hb hby d5_12) hr) e83 ⟨congrArg (fun z => some (Value.int z)) (by rw [own_e0_2, own_e1_2, own_e0_1, own_e1_1]; unfold own_dom; rw [if_pos hc8_84]), N0, rfl⟩ (by decide) (by decide)
      · skip
        refine own_go (fun t_ k_ => XS.icmpYes X83.here hx rfl (pc0 := 8) (pc' := 13) rfl (hb hby d5_8) rfl (flt hc8_84).2.1 (by decide) (by decide) k_) ?_
        show own_G p.tables e below T83 (mkF m 13 #[.val (.ref a1), .val (.ref a2), .unset, .unset, .unset] []) _
        refine own_go (fun t_ k_ => XS.iconst X83.here hx rfl (hb hby d5_13) k_) ?_
        show own_G p.tables e below T83 (mkF m 14 #[.val (.ref a1), .val (.ref a2), .unset, .unset, .unset] [(.int (0 : Int32))]) _
        refine own_go (fun t_ k_ => XS.istoreN X83.here hx rfl (hb hby d5_14) rfl (l' := #[.val (.ref a1), .val (.ref a2), .val (.int (0 : Int32)), .unset, .unset]) rfl k_) ?_
        show own_G p.tables e below T83 (mkF m 15 #[.val (.ref a1), .val (.ref a2), .val (.int (0 : Int32)), .unset, .unset] []) _
        refine own_go (fun t_ k_ => XS.iloadN X83.here hx rfl (hb hby d5_15) rfl k_) ?_
        show own_G p.tables e below T83 (mkF m 16 #[.val (.ref a1), .val (.ref a2), .val (.int (0 : Int32)), .unset, .unset] [(.int (0 : Int32))]) _
        refine own_go (fun t_ k_ => XS.aloadN X83.here hx rfl (hb hby d5_16) rfl rfl k_) ?_
        show own_G p.tables e below T83 (mkF m 17 #[.val (.ref a1), .val (.ref a2), .val (.int (0 : Int32)), .unset, .unset] [(.ref a2), (.int (0 : Int32))]) _
        obtain ⟨T85, X85, e85, st85⟩ := getF X83 hx hZ hown (host := "") (Or.inl (hw _ (List.mem_of_getElem? (i := 29) rfl))) Via.refl e83 Gb (g := (mkF m 17 #[.val (.ref a1), .val (.ref a2), .val (.int (0 : Int32)), .unset, .unset] [(.ref a2), (.int (0 : Int32))])) rfl rfl (hb hby d5_17)
        refine own_go st85 ?_
        show own_G p.tables e below T85 (mkF m 20 #[.val (.ref a1), .val (.ref a2), .val (.int (0 : Int32)), .unset, .unset] [(.ref cb), (.int (0 : Int32))]) _
        obtain ⟨cl86, Ar86, -, S86, M86, H86, -⟩ := id Vb
        refine own_go (fun t_ k_ => X85.arraylength hx (by rw [e85]; exact Ar86.1) (State.isArrayOf_alike hZ.alike Ar86.2.1) (g := (mkF m 20 #[.val (.ref a1), .val (.ref a2), .val (.int (0 : Int32)), .unset, .unset] [(.ref cb), (.int (0 : Int32))])) rfl rfl (hb hby d5_20) _ k_) ?_
        show own_G p.tables e below T85 (mkF m 21 #[.val (.ref a1), .val (.ref a2), .val (.int (0 : Int32)), .unset, .unset] [(.int cl86.slots.size.toInt32), (.int (0 : Int32))]) _
        rw [len_of S86 M86]
        show own_G p.tables e below T85 (mkF m 21 #[.val (.ref a1), .val (.ref a2), .val (.int (0 : Int32)), .unset, .unset] [(.int (1 : Int32)), (.int (0 : Int32))]) _
        refine own_go (fun t_ k_ => XS.icmpNo X85.here hx rfl (hb hby d5_21) rfl (tlt (by decide : ((0 : Int32) < (1 : Int32)))).2.1 k_) ?_
        show own_G p.tables e below T85 (mkF m 24 #[.val (.ref a1), .val (.ref a2), .val (.int (0 : Int32)), .unset, .unset] []) _
        refine own_go (fun t_ k_ => XS.iloadN X85.here hx rfl (hb hby d5_24) rfl k_) ?_
        show own_G p.tables e below T85 (mkF m 25 #[.val (.ref a1), .val (.ref a2), .val (.int (0 : Int32)), .unset, .unset] [(.int (0 : Int32))]) _
        refine own_go (fun t_ k_ => XS.aloadN X85.here hx rfl (hb hby d5_25) rfl rfl k_) ?_
        show own_G p.tables e below T85 (mkF m 26 #[.val (.ref a1), .val (.ref a2), .val (.int (0 : Int32)), .unset, .unset] [(.ref a1), (.int (0 : Int32))]) _
        obtain ⟨T87, X87, e87, st87⟩ := getF X85 hx hZ hown (host := "") (Or.inl (hw _ (List.mem_of_getElem? (i := 29) rfl))) Via.refl e85 Ga (g := (mkF m 26 #[.val (.ref a1), .val (.ref a2), .val (.int (0 : Int32)), .unset, .unset] [(.ref a1), (.int (0 : Int32))])) rfl rfl (hb hby d5_26)
        refine own_go st87 ?_
        show own_G p.tables e below T87 (mkF m 29 #[.val (.ref a1), .val (.ref a2), .val (.int (0 : Int32)), .unset, .unset] [(.ref ca), (.int (0 : Int32))]) _
        obtain ⟨cl88, Ar88, -, S88, M88, H88, -⟩ := id Va
        refine own_go (fun t_ k_ => X87.arraylength hx (by rw [e87]; exact Ar88.1) (State.isArrayOf_alike hZ.alike Ar88.2.1) (g := (mkF m 29 #[.val (.ref a1), .val (.ref a2), .val (.int (0 : Int32)), .unset, .unset] [(.ref ca), (.int (0 : Int32))])) rfl rfl (hb hby d5_29) _ k_) ?_
        show own_G p.tables e below T87 (mkF m 30 #[.val (.ref a1), .val (.ref a2), .val (.int (0 : Int32)), .unset, .unset] [(.int cl88.slots.size.toInt32), (.int (0 : Int32))]) _
        rw [len_of S88 M88]
        show own_G p.tables e below T87 (mkF m 30 #[.val (.ref a1), .val (.ref a2), .val (.int (0 : Int32)), .unset, .unset] [(.int (2 : Int32)), (.int (0 : Int32))]) _
        refine own_go (fun t_ k_ => XS.icmpNo X87.here hx rfl (hb hby d5_30) rfl (tlt (by decide : ((0 : Int32) < (2 : Int32)))).2.1 k_) ?_
        show own_G p.tables e below T87 (mkF m 33 #[.val (.ref a1), .val (.ref a2), .val (.int (0 : Int32)), .unset, .unset] []) _
        refine own_go (fun t_ k_ => XS.aloadN X87.here hx rfl (hb hby d5_33) rfl rfl k_) ?_
        show own_G p.tables e below T87 (mkF m 34 #[.val (.ref a1), .val (.ref a2), .val (.int (0 : Int32)), .unset, .unset] [(.ref a1)]) _
        obtain ⟨T89, X89, e89, st89⟩ := getF X87 hx hZ hown (host := "") (Or.inl (hw _ (List.mem_of_getElem? (i := 29) rfl))) Via.refl e87 Ga (g := (mkF m 34 #[.val (.ref a1), .val (.ref a2), .val (.int (0 : Int32)), .unset, .unset] [(.ref a1)])) rfl rfl (hb hby d5_34)
        refine own_go st89 ?_
        show own_G p.tables e below T89 (mkF m 37 #[.val (.ref a1), .val (.ref a2), .val (.int (0 : Int32)), .unset, .unset] [(.ref ca)]) _
        refine own_go (fun t_ k_ => XS.iloadN X89.here hx rfl (hb hby d5_37) rfl k_) ?_
        show own_G p.tables e below T89 (mkF m 38 #[.val (.ref a1), .val (.ref a2), .val (.int (0 : Int32)), .unset, .unset] [(.int (0 : Int32)), (.ref ca)]) _
        obtain ⟨cl90, Ar90, -, S90, M90, H90, -⟩ := id Va
        have hin90_38 : ¬ ((0 : Int32) < 0 ∨ cl90.slots.size ≤ ((0 : Int32)).toNatClampNeg) := inb_of S90 ⟨by decide, by decide⟩
        refine own_go (fun t_ k_ => X89.laload hx (j := (0 : Int32)) (v := (.long x0)) (by rw [e89]; exact Ar90.1) (State.isArrayOf_alike hZ.alike Ar90.2.1) Ar90.2.2 hin90_38 (H90.at hin90_38 rfl) (g := (mkF m 38 #[.val (.ref a1), .val (.ref a2), .val (.int (0 : Int32)), .unset, .unset] [(.int (0 : Int32)), (.ref ca)])) rfl rfl (hb hby d5_38) _ k_) ?_
        show own_G p.tables e below T89 (mkF m 39 #[.val (.ref a1), .val (.ref a2), .val (.int (0 : Int32)), .unset, .unset] [(.long x0)]) _
        refine own_go (fun t_ k_ => XS.goto X89.here hx rfl (pc0 := 39) (pc' := 43) rfl (hb hby d5_39) (by decide) (by decide) k_) ?_
        show own_G p.tables e below T89 (mkF m 43 #[.val (.ref a1), .val (.ref a2), .val (.int (0 : Int32)), .unset, .unset] [(.long x0)]) _
        refine own_go (fun t_ k_ => XS.lstoreN X89.here hx rfl (hb hby d5_43) rfl (l' := #[.val (.ref a1), .val (.ref a2), .val (.int (0 : Int32)), .val (.long x0), .second]) rfl k_) ?_
        show own_G p.tables e below T89 (mkF m 44 #[.val (.ref a1), .val (.ref a2), .val (.int (0 : Int32)), .val (.long x0), .second] []) _
        refine own_go (fun t_ k_ => XS.aloadN X89.here hx rfl (hb hby d5_44) rfl rfl k_) ?_
        show own_G p.tables e below T89 (mkF m 45 #[.val (.ref a1), .val (.ref a2), .val (.int (0 : Int32)), .val (.long x0), .second] [(.ref a2)]) _
        obtain ⟨T91, X91, e91, st91⟩ := getF X89 hx hZ hown (host := "") (Or.inl (hw _ (List.mem_of_getElem? (i := 29) rfl))) Via.refl e89 Gb (g := (mkF m 45 #[.val (.ref a1), .val (.ref a2), .val (.int (0 : Int32)), .val (.long x0), .second] [(.ref a2)])) rfl rfl (hb hby d5_45)
        refine own_go st91 ?_
        show own_G p.tables e below T91 (mkF m 48 #[.val (.ref a1), .val (.ref a2), .val (.int (0 : Int32)), .val (.long x0), .second] [(.ref cb)]) _
        refine own_go (fun t_ k_ => XS.iloadN X91.here hx rfl (hb hby d5_48) rfl k_) ?_
        show own_G p.tables e below T91 (mkF m 49 #[.val (.ref a1), .val (.ref a2), .val (.int (0 : Int32)), .val (.long x0), .second] [(.int (0 : Int32)), (.ref cb)]) _
        obtain ⟨cl92, Ar92, -, S92, M92, H92, -⟩ := id Vb
        have hin92_49 : ¬ ((0 : Int32) < 0 ∨ cl92.slots.size ≤ ((0 : Int32)).toNatClampNeg) := inb_of S92 ⟨by decide, by decide⟩
        refine own_go (fun t_ k_ => X91.laload hx (j := (0 : Int32)) (v := (.long y0)) (by rw [e91]; exact Ar92.1) (State.isArrayOf_alike hZ.alike Ar92.2.1) Ar92.2.2 hin92_49 (H92.at hin92_49 rfl) (g := (mkF m 49 #[.val (.ref a1), .val (.ref a2), .val (.int (0 : Int32)), .val (.long x0), .second] [(.int (0 : Int32)), (.ref cb)])) rfl rfl (hb hby d5_49) _ k_) ?_
        show own_G p.tables e below T91 (mkF m 50 #[.val (.ref a1), .val (.ref a2), .val (.int (0 : Int32)), .val (.long x0), .second] [(.long y0)]) _
        refine own_go (fun t_ k_ => XS.lloadN X91.here hx rfl (hb hby d5_50) rfl k_) ?_
        show own_G p.tables e below T91 (mkF m 51 #[.val (.ref a1), .val (.ref a2), .val (.int (0 : Int32)), .val (.long x0), .second] [(.long x0), (.long y0)]) _
        refine own_go (fun t_ k_ => X91.ldc2Long hx hown (mvT hZ (hw _ (List.mem_of_getElem? (i := 36) rfl))) (g := (mkF m 51 #[.val (.ref a1), .val (.ref a2), .val (.int (0 : Int32)), .val (.long x0), .second] [(.long x0), (.long y0)])) rfl (hb hby d5_51) _ k_) ?_
        show own_G p.tables e below T91 (mkF m 54 #[.val (.ref a1), .val (.ref a2), .val (.int (0 : Int32)), .val (.long x0), .second] [(.long (-1 : Int64)), (.long x0), (.long y0)]) _
        refine own_go (fun t_ k_ => XS.lxor X91.here hx rfl (hb hby d5_54) rfl k_) ?_
        show own_G p.tables e below T91 (mkF m 55 #[.val (.ref a1), .val (.ref a2), .val (.int (0 : Int32)), .val (.long x0), .second] [(.long (x0 ^^^ (-1 : Int64))), (.long y0)]) _
        refine own_go (fun t_ k_ => XS.land X91.here hx rfl (hb hby d5_55) rfl k_) ?_
        show own_G p.tables e below T91 (mkF m 56 #[.val (.ref a1), .val (.ref a2), .val (.int (0 : Int32)), .val (.long x0), .second] [(.long (y0 &&& (x0 ^^^ (-1 : Int64))))]) _
        refine own_go (fun t_ k_ => XS.lconst X91.here hx rfl (hb hby d5_56) k_) ?_
        show own_G p.tables e below T91 (mkF m 57 #[.val (.ref a1), .val (.ref a2), .val (.int (0 : Int32)), .val (.long x0), .second] [(.long (0 : Int64)), (.long (y0 &&& (x0 ^^^ (-1 : Int64))))]) _
        refine own_go (fun t_ k_ => XS.lcmp X91.here hx rfl (hb hby d5_57) rfl k_) ?_
        show own_G p.tables e below T91 (mkF m 58 #[.val (.ref a1), .val (.ref a2), .val (.int (0 : Int32)), .val (.long x0), .second] [(.int (lcmpW (y0 &&& (x0 ^^^ (-1 : Int64))) (0 : Int64)))]) _
        by_cases hc58_93 : (y0 &&& (x0 ^^^ (-1 : Int64))) = (0 : Int64)
        · skip
          refine own_go (fun t_ k_ => XS.ifYes X91.here hx rfl (pc0 := 58) (pc' := 63) rfl (hb hby d5_58) rfl ((if0 _ _).trans (teq ((lw_eq (y0 &&& (x0 ^^^ (-1 : Int64))) (0 : Int64)).mpr hc58_93)).1) (by decide) (by decide) k_) ?_
          show own_G p.tables e below T91 (mkF m 63 #[.val (.ref a1), .val (.ref a2), .val (.int (0 : Int32)), .val (.long x0), .second] []) _
          refine own_go (fun t_ k_ => XS.iinc X91.here hx rfl (hb hby d5_63) rfl (l' := #[.val (.ref a1), .val (.ref a2), .val (.int (1 : Int32)), .val (.long x0), .second]) rfl k_) ?_
          show own_G p.tables e below T91 (mkF m 66 #[.val (.ref a1), .val (.ref a2), .val (.int (1 : Int32)), .val (.long x0), .second] []) _
          refine own_go (fun t_ k_ => XS.goto X91.here hx rfl (pc0 := 66) (pc' := 15) rfl (hb hby d5_66) (by decide) (by decide) k_) ?_
          show own_G p.tables e below T91 (mkF m 15 #[.val (.ref a1), .val (.ref a2), .val (.int (1 : Int32)), .val (.long x0), .second] []) _
          refine own_go (fun t_ k_ => XS.iloadN X91.here hx rfl (hb hby d5_15) rfl k_) ?_
          show own_G p.tables e below T91 (mkF m 16 #[.val (.ref a1), .val (.ref a2), .val (.int (1 : Int32)), .val (.long x0), .second] [(.int (1 : Int32))]) _
          refine own_go (fun t_ k_ => XS.aloadN X91.here hx rfl (hb hby d5_16) rfl rfl k_) ?_
          show own_G p.tables e below T91 (mkF m 17 #[.val (.ref a1), .val (.ref a2), .val (.int (1 : Int32)), .val (.long x0), .second] [(.ref a2), (.int (1 : Int32))]) _
          obtain ⟨T94, X94, e94, st94⟩ := getF X91 hx hZ hown (host := "") (Or.inl (hw _ (List.mem_of_getElem? (i := 29) rfl))) Via.refl e91 Gb (g := (mkF m 17 #[.val (.ref a1), .val (.ref a2), .val (.int (1 : Int32)), .val (.long x0), .second] [(.ref a2), (.int (1 : Int32))])) rfl rfl (hb hby d5_17)
          refine own_go st94 ?_
          show own_G p.tables e below T94 (mkF m 20 #[.val (.ref a1), .val (.ref a2), .val (.int (1 : Int32)), .val (.long x0), .second] [(.ref cb), (.int (1 : Int32))]) _
          obtain ⟨cl95, Ar95, -, S95, M95, H95, -⟩ := id Vb
          refine own_go (fun t_ k_ => X94.arraylength hx (by rw [e94]; exact Ar95.1) (State.isArrayOf_alike hZ.alike Ar95.2.1) (g := (mkF m 20 #[.val (.ref a1), .val (.ref a2), .val (.int (1 : Int32)), .val (.long x0), .second] [(.ref cb), (.int (1 : Int32))])) rfl rfl (hb hby d5_20) _ k_) ?_
          show own_G p.tables e below T94 (mkF m 21 #[.val (.ref a1), .val (.ref a2), .val (.int (1 : Int32)), .val (.long x0), .second] [(.int cl95.slots.size.toInt32), (.int (1 : Int32))]) _
          rw [len_of S95 M95]
          show own_G p.tables e below T94 (mkF m 21 #[.val (.ref a1), .val (.ref a2), .val (.int (1 : Int32)), .val (.long x0), .second] [(.int (1 : Int32)), (.int (1 : Int32))]) _
          refine own_go (fun t_ k_ => XS.icmpYes X94.here hx rfl (pc0 := 21) (pc' := 69) rfl (hb hby d5_21) rfl (flt (by decide : ¬ ((1 : Int32) < (1 : Int32)))).2.1 (by decide) (by decide) k_) ?_
          show own_G p.tables e below T94 (mkF m 69 #[.val (.ref a1), .val (.ref a2), .val (.int (1 : Int32)), .val (.long x0), .second] []) _
          refine own_go (fun t_ k_ => XS.iconst X94.here hx rfl (hb hby d5_69) k_) ?_
          show own_G p.tables e below T94 (mkF m 70 #[.val (.ref a1), .val (.ref a2), .val (.int (1 : Int32)), .val (.long x0), .second] [(.int (1 : Int32))]) _
          exact own_end (v := some (.int (1 : Int32))) X94 Bd.notSynchronized (fun h => by rw [Bd.returns] at h; cases h) (fun fs hr => retN X94 hx (z := (1 : Int32)) (t := .boolean) Bd.returns (by simp) (hb hby d5_70) hr) e94 ⟨congrArg (fun z => some (Value.int z)) (by rw [own_e0_2, own_e1_2, own_e0_1, own_e1_1]; unfold own_dom; rw [if_neg hc8_84, if_pos hc58_93, if_pos (own_z _)]), N0, rfl⟩ (by decide) (by decide)
        · skip
          refine own_go (fun t_ k_ => XS.ifNo X91.here hx rfl (hb hby d5_58) rfl ((if0 _ _).trans (feq (mt (lw_eq (y0 &&& (x0 ^^^ (-1 : Int64))) (0 : Int64)).mp hc58_93)).1) k_) ?_
          show own_G p.tables e below T91 (mkF m 61 #[.val (.ref a1), .val (.ref a2), .val (.int (0 : Int32)), .val (.long x0), .second] []) _
          refine own_go (fun t_ k_ => XS.iconst X91.here hx rfl (hb hby d5_61) k_) ?_
          show own_G p.tables e below T91 (mkF m 62 #[.val (.ref a1), .val (.ref a2), .val (.int (0 : Int32)), .val (.long x0), .second] [(.int (0 : Int32))]) _
          exact own_end (v := some (.int (0 : Int32))) X91 Bd.notSynchronized (fun h => by rw [Bd.returns] at h; cases h) (fun fs hr => retN X91 hx (z := (0 : Int32)) (t := .boolean) Bd.returns (by simp) (hb hby d5_62) hr) e91 ⟨congrArg (fun z => some (Value.int z)) (by rw [own_e0_2, own_e1_2, own_e0_1, own_e1_1]; unfold own_dom; rw [if_neg hc8_84, if_neg hc58_93]), N0, rfl⟩ (by decide) (by decide)
    · skip
      rw [own_c2] at Vb
      show own_G p.tables e below s₁ (mkF m 0 #[.val (.ref a1), .val (.ref a2), .unset, .unset, .unset] []) _
      refine own_go (fun t_ k_ => XS.aloadN X0.here hx rfl (hb hby d5_0) rfl rfl k_) ?_
      show own_G p.tables e below s₁ (mkF m 1 #[.val (.ref a1), .val (.ref a2), .unset, .unset, .unset] [(.ref a1)]) _
      obtain ⟨T96, X96, e96, st96⟩ := getF X0 hx hZ hown (host := "") (Or.inl (hw _ (List.mem_of_getElem? (i := 18) rfl))) Via.refl e0 Fa (g := (mkF m 1 #[.val (.ref a1), .val (.ref a2), .unset, .unset, .unset] [(.ref a1)])) rfl rfl (hb hby d5_1)
      refine own_go st96 ?_
      show own_G p.tables e below T96 (mkF m 4 #[.val (.ref a1), .val (.ref a2), .unset, .unset, .unset] [(.int la)]) _
      refine own_go (fun t_ k_ => XS.aloadN X96.here hx rfl (hb hby d5_4) rfl rfl k_) ?_
      show own_G p.tables e below T96 (mkF m 5 #[.val (.ref a1), .val (.ref a2), .unset, .unset, .unset] [(.ref a2), (.int la)]) _
      obtain ⟨T97, X97, e97, st97⟩ := getF X96 hx hZ hown (host := "") (Or.inl (hw _ (List.mem_of_getElem? (i := 18) rfl))) Via.refl e96 Fb (g := (mkF m 5 #[.val (.ref a1), .val (.ref a2), .unset, .unset, .unset] [(.ref a2), (.int la)])) rfl rfl (hb hby d5_5)
      refine own_go st97 ?_
      show own_G p.tables e below T97 (mkF m 8 #[.val (.ref a1), .val (.ref a2), .unset, .unset, .unset] [(.int lb), (.int la)]) _
      by_cases hc8_98 : la < lb
      · skip
        refine own_go (fun t_ k_ => XS.icmpNo X97.here hx rfl (hb hby d5_8) rfl (tlt hc8_98).2.1 k_) ?_
        show own_G p.tables e below T97 (mkF m 11 #[.val (.ref a1), .val (.ref a2), .unset, .unset, .unset] []) _
        refine own_go (fun t_ k_ => XS.iconst X97.here hx rfl (hb hby d5_11) k_) ?_
        show own_G p.tables e below T97 (mkF m 12 #[.val (.ref a1), .val (.ref a2), .unset, .unset, .unset] [(.int (0 : Int32))]) _
        exact own_end (v := some (.int (0 : Int32))) X97 Bd.notSynchronized (fun h => by rw [Bd.returns] at h; cases h) (fun fs hr => retN X97 hx (z := (0 : Int32)) (t := .boolean) Bd.returns (by simp) (hb hby d5_12) hr) e97 ⟨congrArg (fun z => some (Value.int z)) (by rw [own_e0_2, own_e1_2, own_e0_2, own_e1_2]; unfold own_dom; rw [if_pos hc8_98]), N0, rfl⟩ (by decide) (by decide)
      · skip
        refine own_go (fun t_ k_ => XS.icmpYes X97.here hx rfl (pc0 := 8) (pc' := 13) rfl (hb hby d5_8) rfl (flt hc8_98).2.1 (by decide) (by decide) k_) ?_
        show own_G p.tables e below T97 (mkF m 13 #[.val (.ref a1), .val (.ref a2), .unset, .unset, .unset] []) _
        refine own_go (fun t_ k_ => XS.iconst X97.here hx rfl (hb hby d5_13) k_) ?_
        show own_G p.tables e below T97 (mkF m 14 #[.val (.ref a1), .val (.ref a2), .unset, .unset, .unset] [(.int (0 : Int32))]) _
        refine own_go (fun t_ k_ => XS.istoreN X97.here hx rfl (hb hby d5_14) rfl (l' := #[.val (.ref a1), .val (.ref a2), .val (.int (0 : Int32)), .unset, .unset]) rfl k_) ?_
        show own_G p.tables e below T97 (mkF m 15 #[.val (.ref a1), .val (.ref a2), .val (.int (0 : Int32)), .unset, .unset] []) _
        refine own_go (fun t_ k_ => XS.iloadN X97.here hx rfl (hb hby d5_15) rfl k_) ?_
        show own_G p.tables e below T97 (mkF m 16 #[.val (.ref a1), .val (.ref a2), .val (.int (0 : Int32)), .unset, .unset] [(.int (0 : Int32))]) _
        refine own_go (fun t_ k_ => XS.aloadN X97.here hx rfl (hb hby d5_16) rfl rfl k_) ?_
        show own_G p.tables e below T97 (mkF m 17 #[.val (.ref a1), .val (.ref a2), .val (.int (0 : Int32)), .unset, .unset] [(.ref a2), (.int (0 : Int32))]) _
        obtain ⟨T99, X99, e99, st99⟩ := getF X97 hx hZ hown (host := "") (Or.inl (hw _ (List.mem_of_getElem? (i := 29) rfl))) Via.refl e97 Gb (g := (mkF m 17 #[.val (.ref a1), .val (.ref a2), .val (.int (0 : Int32)), .unset, .unset] [(.ref a2), (.int (0 : Int32))])) rfl rfl (hb hby d5_17)
        refine own_go st99 ?_
        show own_G p.tables e below T99 (mkF m 20 #[.val (.ref a1), .val (.ref a2), .val (.int (0 : Int32)), .unset, .unset] [(.ref cb), (.int (0 : Int32))]) _
        obtain ⟨cl100, Ar100, -, S100, M100, H100, -⟩ := id Vb
        refine own_go (fun t_ k_ => X99.arraylength hx (by rw [e99]; exact Ar100.1) (State.isArrayOf_alike hZ.alike Ar100.2.1) (g := (mkF m 20 #[.val (.ref a1), .val (.ref a2), .val (.int (0 : Int32)), .unset, .unset] [(.ref cb), (.int (0 : Int32))])) rfl rfl (hb hby d5_20) _ k_) ?_
        show own_G p.tables e below T99 (mkF m 21 #[.val (.ref a1), .val (.ref a2), .val (.int (0 : Int32)), .unset, .unset] [(.int cl100.slots.size.toInt32), (.int (0 : Int32))]) _
        rw [len_of S100 M100]
        show own_G p.tables e below T99 (mkF m 21 #[.val (.ref a1), .val (.ref a2), .val (.int (0 : Int32)), .unset, .unset] [(.int (2 : Int32)), (.int (0 : Int32))]) _
        refine own_go (fun t_ k_ => XS.icmpNo X99.here hx rfl (hb hby d5_21) rfl (tlt (by decide : ((0 : Int32) < (2 : Int32)))).2.1 k_) ?_
        show own_G p.tables e below T99 (mkF m 24 #[.val (.ref a1), .val (.ref a2), .val (.int (0 : Int32)), .unset, .unset] []) _
        refine own_go (fun t_ k_ => XS.iloadN X99.here hx rfl (hb hby d5_24) rfl k_) ?_
        show own_G p.tables e below T99 (mkF m 25 #[.val (.ref a1), .val (.ref a2), .val (.int (0 : Int32)), .unset, .unset] [(.int (0 : Int32))]) _
        refine own_go (fun t_ k_ => XS.aloadN X99.here hx rfl (hb hby d5_25) rfl rfl k_) ?_
        show own_G p.tables e below T99 (mkF m 26 #[.val (.ref a1), .val (.ref a2), .val (.int (0 : Int32)), .unset, .unset] [(.ref a1), (.int (0 : Int32))]) _
        obtain ⟨T101, X101, e101, st101⟩ := getF X99 hx hZ hown (host := "") (Or.inl (hw _ (List.mem_of_getElem? (i := 29) rfl))) Via.refl e99 Ga (g := (mkF m 26 #[.val (.ref a1), .val (.ref a2), .val (.int (0 : Int32)), .unset, .unset] [(.ref a1), (.int (0 : Int32))])) rfl rfl (hb hby d5_26)
        refine own_go st101 ?_
        show own_G p.tables e below T101 (mkF m 29 #[.val (.ref a1), .val (.ref a2), .val (.int (0 : Int32)), .unset, .unset] [(.ref ca), (.int (0 : Int32))]) _
        obtain ⟨cl102, Ar102, -, S102, M102, H102, -⟩ := id Va
        refine own_go (fun t_ k_ => X101.arraylength hx (by rw [e101]; exact Ar102.1) (State.isArrayOf_alike hZ.alike Ar102.2.1) (g := (mkF m 29 #[.val (.ref a1), .val (.ref a2), .val (.int (0 : Int32)), .unset, .unset] [(.ref ca), (.int (0 : Int32))])) rfl rfl (hb hby d5_29) _ k_) ?_
        show own_G p.tables e below T101 (mkF m 30 #[.val (.ref a1), .val (.ref a2), .val (.int (0 : Int32)), .unset, .unset] [(.int cl102.slots.size.toInt32), (.int (0 : Int32))]) _
        rw [len_of S102 M102]
        show own_G p.tables e below T101 (mkF m 30 #[.val (.ref a1), .val (.ref a2), .val (.int (0 : Int32)), .unset, .unset] [(.int (2 : Int32)), (.int (0 : Int32))]) _
        refine own_go (fun t_ k_ => XS.icmpNo X101.here hx rfl (hb hby d5_30) rfl (tlt (by decide : ((0 : Int32) < (2 : Int32)))).2.1 k_) ?_
        show own_G p.tables e below T101 (mkF m 33 #[.val (.ref a1), .val (.ref a2), .val (.int (0 : Int32)), .unset, .unset] []) _
        refine own_go (fun t_ k_ => XS.aloadN X101.here hx rfl (hb hby d5_33) rfl rfl k_) ?_
        show own_G p.tables e below T101 (mkF m 34 #[.val (.ref a1), .val (.ref a2), .val (.int (0 : Int32)), .unset, .unset] [(.ref a1)]) _
        obtain ⟨T103, X103, e103, st103⟩ := getF X101 hx hZ hown (host := "") (Or.inl (hw _ (List.mem_of_getElem? (i := 29) rfl))) Via.refl e101 Ga (g := (mkF m 34 #[.val (.ref a1), .val (.ref a2), .val (.int (0 : Int32)), .unset, .unset] [(.ref a1)])) rfl rfl (hb hby d5_34)
        refine own_go st103 ?_
        show own_G p.tables e below T103 (mkF m 37 #[.val (.ref a1), .val (.ref a2), .val (.int (0 : Int32)), .unset, .unset] [(.ref ca)]) _
        refine own_go (fun t_ k_ => XS.iloadN X103.here hx rfl (hb hby d5_37) rfl k_) ?_
        show own_G p.tables e below T103 (mkF m 38 #[.val (.ref a1), .val (.ref a2), .val (.int (0 : Int32)), .unset, .unset] [(.int (0 : Int32)), (.ref ca)]) _
        obtain ⟨cl104, Ar104, -, S104, M104, H104, -⟩ := id Va
        have hin104_38 : ¬ ((0 : Int32) < 0 ∨ cl104.slots.size ≤ ((0 : Int32)).toNatClampNeg) := inb_of S104 ⟨by decide, by decide⟩
        refine own_go (fun t_ k_ => X103.laload hx (j := (0 : Int32)) (v := (.long x0)) (by rw [e103]; exact Ar104.1) (State.isArrayOf_alike hZ.alike Ar104.2.1) Ar104.2.2 hin104_38 (H104.at hin104_38 rfl) (g := (mkF m 38 #[.val (.ref a1), .val (.ref a2), .val (.int (0 : Int32)), .unset, .unset] [(.int (0 : Int32)), (.ref ca)])) rfl rfl (hb hby d5_38) _ k_) ?_
        show own_G p.tables e below T103 (mkF m 39 #[.val (.ref a1), .val (.ref a2), .val (.int (0 : Int32)), .unset, .unset] [(.long x0)]) _
        refine own_go (fun t_ k_ => XS.goto X103.here hx rfl (pc0 := 39) (pc' := 43) rfl (hb hby d5_39) (by decide) (by decide) k_) ?_
        show own_G p.tables e below T103 (mkF m 43 #[.val (.ref a1), .val (.ref a2), .val (.int (0 : Int32)), .unset, .unset] [(.long x0)]) _
        refine own_go (fun t_ k_ => XS.lstoreN X103.here hx rfl (hb hby d5_43) rfl (l' := #[.val (.ref a1), .val (.ref a2), .val (.int (0 : Int32)), .val (.long x0), .second]) rfl k_) ?_
        show own_G p.tables e below T103 (mkF m 44 #[.val (.ref a1), .val (.ref a2), .val (.int (0 : Int32)), .val (.long x0), .second] []) _
        refine own_go (fun t_ k_ => XS.aloadN X103.here hx rfl (hb hby d5_44) rfl rfl k_) ?_
        show own_G p.tables e below T103 (mkF m 45 #[.val (.ref a1), .val (.ref a2), .val (.int (0 : Int32)), .val (.long x0), .second] [(.ref a2)]) _
        obtain ⟨T105, X105, e105, st105⟩ := getF X103 hx hZ hown (host := "") (Or.inl (hw _ (List.mem_of_getElem? (i := 29) rfl))) Via.refl e103 Gb (g := (mkF m 45 #[.val (.ref a1), .val (.ref a2), .val (.int (0 : Int32)), .val (.long x0), .second] [(.ref a2)])) rfl rfl (hb hby d5_45)
        refine own_go st105 ?_
        show own_G p.tables e below T105 (mkF m 48 #[.val (.ref a1), .val (.ref a2), .val (.int (0 : Int32)), .val (.long x0), .second] [(.ref cb)]) _
        refine own_go (fun t_ k_ => XS.iloadN X105.here hx rfl (hb hby d5_48) rfl k_) ?_
        show own_G p.tables e below T105 (mkF m 49 #[.val (.ref a1), .val (.ref a2), .val (.int (0 : Int32)), .val (.long x0), .second] [(.int (0 : Int32)), (.ref cb)]) _
        obtain ⟨cl106, Ar106, -, S106, M106, H106, -⟩ := id Vb
        have hin106_49 : ¬ ((0 : Int32) < 0 ∨ cl106.slots.size ≤ ((0 : Int32)).toNatClampNeg) := inb_of S106 ⟨by decide, by decide⟩
        refine own_go (fun t_ k_ => X105.laload hx (j := (0 : Int32)) (v := (.long y0)) (by rw [e105]; exact Ar106.1) (State.isArrayOf_alike hZ.alike Ar106.2.1) Ar106.2.2 hin106_49 (H106.at hin106_49 rfl) (g := (mkF m 49 #[.val (.ref a1), .val (.ref a2), .val (.int (0 : Int32)), .val (.long x0), .second] [(.int (0 : Int32)), (.ref cb)])) rfl rfl (hb hby d5_49) _ k_) ?_
        show own_G p.tables e below T105 (mkF m 50 #[.val (.ref a1), .val (.ref a2), .val (.int (0 : Int32)), .val (.long x0), .second] [(.long y0)]) _
        refine own_go (fun t_ k_ => XS.lloadN X105.here hx rfl (hb hby d5_50) rfl k_) ?_
        show own_G p.tables e below T105 (mkF m 51 #[.val (.ref a1), .val (.ref a2), .val (.int (0 : Int32)), .val (.long x0), .second] [(.long x0), (.long y0)]) _
        refine own_go (fun t_ k_ => X105.ldc2Long hx hown (mvT hZ (hw _ (List.mem_of_getElem? (i := 36) rfl))) (g := (mkF m 51 #[.val (.ref a1), .val (.ref a2), .val (.int (0 : Int32)), .val (.long x0), .second] [(.long x0), (.long y0)])) rfl (hb hby d5_51) _ k_) ?_
        show own_G p.tables e below T105 (mkF m 54 #[.val (.ref a1), .val (.ref a2), .val (.int (0 : Int32)), .val (.long x0), .second] [(.long (-1 : Int64)), (.long x0), (.long y0)]) _
        refine own_go (fun t_ k_ => XS.lxor X105.here hx rfl (hb hby d5_54) rfl k_) ?_
        show own_G p.tables e below T105 (mkF m 55 #[.val (.ref a1), .val (.ref a2), .val (.int (0 : Int32)), .val (.long x0), .second] [(.long (x0 ^^^ (-1 : Int64))), (.long y0)]) _
        refine own_go (fun t_ k_ => XS.land X105.here hx rfl (hb hby d5_55) rfl k_) ?_
        show own_G p.tables e below T105 (mkF m 56 #[.val (.ref a1), .val (.ref a2), .val (.int (0 : Int32)), .val (.long x0), .second] [(.long (y0 &&& (x0 ^^^ (-1 : Int64))))]) _
        refine own_go (fun t_ k_ => XS.lconst X105.here hx rfl (hb hby d5_56) k_) ?_
        show own_G p.tables e below T105 (mkF m 57 #[.val (.ref a1), .val (.ref a2), .val (.int (0 : Int32)), .val (.long x0), .second] [(.long (0 : Int64)), (.long (y0 &&& (x0 ^^^ (-1 : Int64))))]) _
        refine own_go (fun t_ k_ => XS.lcmp X105.here hx rfl (hb hby d5_57) rfl k_) ?_
        show own_G p.tables e below T105 (mkF m 58 #[.val (.ref a1), .val (.ref a2), .val (.int (0 : Int32)), .val (.long x0), .second] [(.int (lcmpW (y0 &&& (x0 ^^^ (-1 : Int64))) (0 : Int64)))]) _
        by_cases hc58_107 : (y0 &&& (x0 ^^^ (-1 : Int64))) = (0 : Int64)
        · skip
          refine own_go (fun t_ k_ => XS.ifYes X105.here hx rfl (pc0 := 58) (pc' := 63) rfl (hb hby d5_58) rfl ((if0 _ _).trans (teq ((lw_eq (y0 &&& (x0 ^^^ (-1 : Int64))) (0 : Int64)).mpr hc58_107)).1) (by decide) (by decide) k_) ?_
          show own_G p.tables e below T105 (mkF m 63 #[.val (.ref a1), .val (.ref a2), .val (.int (0 : Int32)), .val (.long x0), .second] []) _
          refine own_go (fun t_ k_ => XS.iinc X105.here hx rfl (hb hby d5_63) rfl (l' := #[.val (.ref a1), .val (.ref a2), .val (.int (1 : Int32)), .val (.long x0), .second]) rfl k_) ?_
          show own_G p.tables e below T105 (mkF m 66 #[.val (.ref a1), .val (.ref a2), .val (.int (1 : Int32)), .val (.long x0), .second] []) _
          refine own_go (fun t_ k_ => XS.goto X105.here hx rfl (pc0 := 66) (pc' := 15) rfl (hb hby d5_66) (by decide) (by decide) k_) ?_
          show own_G p.tables e below T105 (mkF m 15 #[.val (.ref a1), .val (.ref a2), .val (.int (1 : Int32)), .val (.long x0), .second] []) _
          refine own_go (fun t_ k_ => XS.iloadN X105.here hx rfl (hb hby d5_15) rfl k_) ?_
          show own_G p.tables e below T105 (mkF m 16 #[.val (.ref a1), .val (.ref a2), .val (.int (1 : Int32)), .val (.long x0), .second] [(.int (1 : Int32))]) _
          refine own_go (fun t_ k_ => XS.aloadN X105.here hx rfl (hb hby d5_16) rfl rfl k_) ?_
          show own_G p.tables e below T105 (mkF m 17 #[.val (.ref a1), .val (.ref a2), .val (.int (1 : Int32)), .val (.long x0), .second] [(.ref a2), (.int (1 : Int32))]) _
          obtain ⟨T108, X108, e108, st108⟩ := getF X105 hx hZ hown (host := "") (Or.inl (hw _ (List.mem_of_getElem? (i := 29) rfl))) Via.refl e105 Gb (g := (mkF m 17 #[.val (.ref a1), .val (.ref a2), .val (.int (1 : Int32)), .val (.long x0), .second] [(.ref a2), (.int (1 : Int32))])) rfl rfl (hb hby d5_17)
          refine own_go st108 ?_
          show own_G p.tables e below T108 (mkF m 20 #[.val (.ref a1), .val (.ref a2), .val (.int (1 : Int32)), .val (.long x0), .second] [(.ref cb), (.int (1 : Int32))]) _
          obtain ⟨cl109, Ar109, -, S109, M109, H109, -⟩ := id Vb
          refine own_go (fun t_ k_ => X108.arraylength hx (by rw [e108]; exact Ar109.1) (State.isArrayOf_alike hZ.alike Ar109.2.1) (g := (mkF m 20 #[.val (.ref a1), .val (.ref a2), .val (.int (1 : Int32)), .val (.long x0), .second] [(.ref cb), (.int (1 : Int32))])) rfl rfl (hb hby d5_20) _ k_) ?_
          show own_G p.tables e below T108 (mkF m 21 #[.val (.ref a1), .val (.ref a2), .val (.int (1 : Int32)), .val (.long x0), .second] [(.int cl109.slots.size.toInt32), (.int (1 : Int32))]) _
          rw [len_of S109 M109]
          show own_G p.tables e below T108 (mkF m 21 #[.val (.ref a1), .val (.ref a2), .val (.int (1 : Int32)), .val (.long x0), .second] [(.int (2 : Int32)), (.int (1 : Int32))]) _
          refine own_go (fun t_ k_ => XS.icmpNo X108.here hx rfl (hb hby d5_21) rfl (tlt (by decide : ((1 : Int32) < (2 : Int32)))).2.1 k_) ?_
          show own_G p.tables e below T108 (mkF m 24 #[.val (.ref a1), .val (.ref a2), .val (.int (1 : Int32)), .val (.long x0), .second] []) _
          refine own_go (fun t_ k_ => XS.iloadN X108.here hx rfl (hb hby d5_24) rfl k_) ?_
          show own_G p.tables e below T108 (mkF m 25 #[.val (.ref a1), .val (.ref a2), .val (.int (1 : Int32)), .val (.long x0), .second] [(.int (1 : Int32))]) _
          refine own_go (fun t_ k_ => XS.aloadN X108.here hx rfl (hb hby d5_25) rfl rfl k_) ?_
          show own_G p.tables e below T108 (mkF m 26 #[.val (.ref a1), .val (.ref a2), .val (.int (1 : Int32)), .val (.long x0), .second] [(.ref a1), (.int (1 : Int32))]) _
          obtain ⟨T110, X110, e110, st110⟩ := getF X108 hx hZ hown (host := "") (Or.inl (hw _ (List.mem_of_getElem? (i := 29) rfl))) Via.refl e108 Ga (g := (mkF m 26 #[.val (.ref a1), .val (.ref a2), .val (.int (1 : Int32)), .val (.long x0), .second] [(.ref a1), (.int (1 : Int32))])) rfl rfl (hb hby d5_26)
          refine own_go st110 ?_
          show own_G p.tables e below T110 (mkF m 29 #[.val (.ref a1), .val (.ref a2), .val (.int (1 : Int32)), .val (.long x0), .second] [(.ref ca), (.int (1 : Int32))]) _
          obtain ⟨cl111, Ar111, -, S111, M111, H111, -⟩ := id Va
          refine own_go (fun t_ k_ => X110.arraylength hx (by rw [e110]; exact Ar111.1) (State.isArrayOf_alike hZ.alike Ar111.2.1) (g := (mkF m 29 #[.val (.ref a1), .val (.ref a2), .val (.int (1 : Int32)), .val (.long x0), .second] [(.ref ca), (.int (1 : Int32))])) rfl rfl (hb hby d5_29) _ k_) ?_
          show own_G p.tables e below T110 (mkF m 30 #[.val (.ref a1), .val (.ref a2), .val (.int (1 : Int32)), .val (.long x0), .second] [(.int cl111.slots.size.toInt32), (.int (1 : Int32))]) _
          rw [len_of S111 M111]
          show own_G p.tables e below T110 (mkF m 30 #[.val (.ref a1), .val (.ref a2), .val (.int (1 : Int32)), .val (.long x0), .second] [(.int (2 : Int32)), (.int (1 : Int32))]) _
          refine own_go (fun t_ k_ => XS.icmpNo X110.here hx rfl (hb hby d5_30) rfl (tlt (by decide : ((1 : Int32) < (2 : Int32)))).2.1 k_) ?_
          show own_G p.tables e below T110 (mkF m 33 #[.val (.ref a1), .val (.ref a2), .val (.int (1 : Int32)), .val (.long x0), .second] []) _
          refine own_go (fun t_ k_ => XS.aloadN X110.here hx rfl (hb hby d5_33) rfl rfl k_) ?_
          show own_G p.tables e below T110 (mkF m 34 #[.val (.ref a1), .val (.ref a2), .val (.int (1 : Int32)), .val (.long x0), .second] [(.ref a1)]) _
          obtain ⟨T112, X112, e112, st112⟩ := getF X110 hx hZ hown (host := "") (Or.inl (hw _ (List.mem_of_getElem? (i := 29) rfl))) Via.refl e110 Ga (g := (mkF m 34 #[.val (.ref a1), .val (.ref a2), .val (.int (1 : Int32)), .val (.long x0), .second] [(.ref a1)])) rfl rfl (hb hby d5_34)
          refine own_go st112 ?_
          show own_G p.tables e below T112 (mkF m 37 #[.val (.ref a1), .val (.ref a2), .val (.int (1 : Int32)), .val (.long x0), .second] [(.ref ca)]) _
          refine own_go (fun t_ k_ => XS.iloadN X112.here hx rfl (hb hby d5_37) rfl k_) ?_
          show own_G p.tables e below T112 (mkF m 38 #[.val (.ref a1), .val (.ref a2), .val (.int (1 : Int32)), .val (.long x0), .second] [(.int (1 : Int32)), (.ref ca)]) _
          obtain ⟨cl113, Ar113, -, S113, M113, H113, -⟩ := id Va
          have hin113_38 : ¬ ((1 : Int32) < 0 ∨ cl113.slots.size ≤ ((1 : Int32)).toNatClampNeg) := inb_of S113 ⟨by decide, by decide⟩
          refine own_go (fun t_ k_ => X112.laload hx (j := (1 : Int32)) (v := (.long x1)) (by rw [e112]; exact Ar113.1) (State.isArrayOf_alike hZ.alike Ar113.2.1) Ar113.2.2 hin113_38 (H113.at hin113_38 rfl) (g := (mkF m 38 #[.val (.ref a1), .val (.ref a2), .val (.int (1 : Int32)), .val (.long x0), .second] [(.int (1 : Int32)), (.ref ca)])) rfl rfl (hb hby d5_38) _ k_) ?_
          show own_G p.tables e below T112 (mkF m 39 #[.val (.ref a1), .val (.ref a2), .val (.int (1 : Int32)), .val (.long x0), .second] [(.long x1)]) _
          refine own_go (fun t_ k_ => XS.goto X112.here hx rfl (pc0 := 39) (pc' := 43) rfl (hb hby d5_39) (by decide) (by decide) k_) ?_
          show own_G p.tables e below T112 (mkF m 43 #[.val (.ref a1), .val (.ref a2), .val (.int (1 : Int32)), .val (.long x0), .second] [(.long x1)]) _
          refine own_go (fun t_ k_ => XS.lstoreN X112.here hx rfl (hb hby d5_43) rfl (l' := #[.val (.ref a1), .val (.ref a2), .val (.int (1 : Int32)), .val (.long x1), .second]) rfl k_) ?_
          show own_G p.tables e below T112 (mkF m 44 #[.val (.ref a1), .val (.ref a2), .val (.int (1 : Int32)), .val (.long x1), .second] []) _
          refine own_go (fun t_ k_ => XS.aloadN X112.here hx rfl (hb hby d5_44) rfl rfl k_) ?_
          show own_G p.tables e below T112 (mkF m 45 #[.val (.ref a1), .val (.ref a2), .val (.int (1 : Int32)), .val (.long x1), .second] [(.ref a2)]) _
          obtain ⟨T114, X114, e114, st114⟩ := getF X112 hx hZ hown (host := "") (Or.inl (hw _ (List.mem_of_getElem? (i := 29) rfl))) Via.refl e112 Gb (g := (mkF m 45 #[.val (.ref a1), .val (.ref a2), .val (.int (1 : Int32)), .val (.long x1), .second] [(.ref a2)])) rfl rfl (hb hby d5_45)
          refine own_go st114 ?_
          show own_G p.tables e below T114 (mkF m 48 #[.val (.ref a1), .val (.ref a2), .val (.int (1 : Int32)), .val (.long x1), .second] [(.ref cb)]) _
          refine own_go (fun t_ k_ => XS.iloadN X114.here hx rfl (hb hby d5_48) rfl k_) ?_
          show own_G p.tables e below T114 (mkF m 49 #[.val (.ref a1), .val (.ref a2), .val (.int (1 : Int32)), .val (.long x1), .second] [(.int (1 : Int32)), (.ref cb)]) _
          obtain ⟨cl115, Ar115, -, S115, M115, H115, -⟩ := id Vb
          have hin115_49 : ¬ ((1 : Int32) < 0 ∨ cl115.slots.size ≤ ((1 : Int32)).toNatClampNeg) := inb_of S115 ⟨by decide, by decide⟩
          refine own_go (fun t_ k_ => X114.laload hx (j := (1 : Int32)) (v := (.long y1)) (by rw [e114]; exact Ar115.1) (State.isArrayOf_alike hZ.alike Ar115.2.1) Ar115.2.2 hin115_49 (H115.at hin115_49 rfl) (g := (mkF m 49 #[.val (.ref a1), .val (.ref a2), .val (.int (1 : Int32)), .val (.long x1), .second] [(.int (1 : Int32)), (.ref cb)])) rfl rfl (hb hby d5_49) _ k_) ?_
          show own_G p.tables e below T114 (mkF m 50 #[.val (.ref a1), .val (.ref a2), .val (.int (1 : Int32)), .val (.long x1), .second] [(.long y1)]) _
          refine own_go (fun t_ k_ => XS.lloadN X114.here hx rfl (hb hby d5_50) rfl k_) ?_
          show own_G p.tables e below T114 (mkF m 51 #[.val (.ref a1), .val (.ref a2), .val (.int (1 : Int32)), .val (.long x1), .second] [(.long x1), (.long y1)]) _
          refine own_go (fun t_ k_ => X114.ldc2Long hx hown (mvT hZ (hw _ (List.mem_of_getElem? (i := 36) rfl))) (g := (mkF m 51 #[.val (.ref a1), .val (.ref a2), .val (.int (1 : Int32)), .val (.long x1), .second] [(.long x1), (.long y1)])) rfl (hb hby d5_51) _ k_) ?_
          show own_G p.tables e below T114 (mkF m 54 #[.val (.ref a1), .val (.ref a2), .val (.int (1 : Int32)), .val (.long x1), .second] [(.long (-1 : Int64)), (.long x1), (.long y1)]) _
          refine own_go (fun t_ k_ => XS.lxor X114.here hx rfl (hb hby d5_54) rfl k_) ?_
          show own_G p.tables e below T114 (mkF m 55 #[.val (.ref a1), .val (.ref a2), .val (.int (1 : Int32)), .val (.long x1), .second] [(.long (x1 ^^^ (-1 : Int64))), (.long y1)]) _
          refine own_go (fun t_ k_ => XS.land X114.here hx rfl (hb hby d5_55) rfl k_) ?_
          show own_G p.tables e below T114 (mkF m 56 #[.val (.ref a1), .val (.ref a2), .val (.int (1 : Int32)), .val (.long x1), .second] [(.long (y1 &&& (x1 ^^^ (-1 : Int64))))]) _
          refine own_go (fun t_ k_ => XS.lconst X114.here hx rfl (hb hby d5_56) k_) ?_
          show own_G p.tables e below T114 (mkF m 57 #[.val (.ref a1), .val (.ref a2), .val (.int (1 : Int32)), .val (.long x1), .second] [(.long (0 : Int64)), (.long (y1 &&& (x1 ^^^ (-1 : Int64))))]) _
          refine own_go (fun t_ k_ => XS.lcmp X114.here hx rfl (hb hby d5_57) rfl k_) ?_
          show own_G p.tables e below T114 (mkF m 58 #[.val (.ref a1), .val (.ref a2), .val (.int (1 : Int32)), .val (.long x1), .second] [(.int (lcmpW (y1 &&& (x1 ^^^ (-1 : Int64))) (0 : Int64)))]) _
          by_cases hc58_116 : (y1 &&& (x1 ^^^ (-1 : Int64))) = (0 : Int64)
          · skip
            refine own_go (fun t_ k_ => XS.ifYes X114.here hx rfl (pc0 := 58) (pc' := 63) rfl (hb hby d5_58) rfl ((if0 _ _).trans (teq ((lw_eq (y1 &&& (x1 ^^^ (-1 : Int64))) (0 : Int64)).mpr hc58_116)).1) (by decide) (by decide) k_) ?_
            show own_G p.tables e below T114 (mkF m 63 #[.val (.ref a1), .val (.ref a2), .val (.int (1 : Int32)), .val (.long x1), .second] []) _
            refine own_go (fun t_ k_ => XS.iinc X114.here hx rfl (hb hby d5_63) rfl (l' := #[.val (.ref a1), .val (.ref a2), .val (.int (2 : Int32)), .val (.long x1), .second]) rfl k_) ?_
            show own_G p.tables e below T114 (mkF m 66 #[.val (.ref a1), .val (.ref a2), .val (.int (2 : Int32)), .val (.long x1), .second] []) _
            refine own_go (fun t_ k_ => XS.goto X114.here hx rfl (pc0 := 66) (pc' := 15) rfl (hb hby d5_66) (by decide) (by decide) k_) ?_
            show own_G p.tables e below T114 (mkF m 15 #[.val (.ref a1), .val (.ref a2), .val (.int (2 : Int32)), .val (.long x1), .second] []) _
            refine own_go (fun t_ k_ => XS.iloadN X114.here hx rfl (hb hby d5_15) rfl k_) ?_
            show own_G p.tables e below T114 (mkF m 16 #[.val (.ref a1), .val (.ref a2), .val (.int (2 : Int32)), .val (.long x1), .second] [(.int (2 : Int32))]) _
            refine own_go (fun t_ k_ => XS.aloadN X114.here hx rfl (hb hby d5_16) rfl rfl k_) ?_
            show own_G p.tables e below T114 (mkF m 17 #[.val (.ref a1), .val (.ref a2), .val (.int (2 : Int32)), .val (.long x1), .second] [(.ref a2), (.int (2 : Int32))]) _
            obtain ⟨T117, X117, e117, st117⟩ := getF X114 hx hZ hown (host := "") (Or.inl (hw _ (List.mem_of_getElem? (i := 29) rfl))) Via.refl e114 Gb (g := (mkF m 17 #[.val (.ref a1), .val (.ref a2), .val (.int (2 : Int32)), .val (.long x1), .second] [(.ref a2), (.int (2 : Int32))])) rfl rfl (hb hby d5_17)
            refine own_go st117 ?_
            show own_G p.tables e below T117 (mkF m 20 #[.val (.ref a1), .val (.ref a2), .val (.int (2 : Int32)), .val (.long x1), .second] [(.ref cb), (.int (2 : Int32))]) _
            obtain ⟨cl118, Ar118, -, S118, M118, H118, -⟩ := id Vb
            refine own_go (fun t_ k_ => X117.arraylength hx (by rw [e117]; exact Ar118.1) (State.isArrayOf_alike hZ.alike Ar118.2.1) (g := (mkF m 20 #[.val (.ref a1), .val (.ref a2), .val (.int (2 : Int32)), .val (.long x1), .second] [(.ref cb), (.int (2 : Int32))])) rfl rfl (hb hby d5_20) _ k_) ?_
            show own_G p.tables e below T117 (mkF m 21 #[.val (.ref a1), .val (.ref a2), .val (.int (2 : Int32)), .val (.long x1), .second] [(.int cl118.slots.size.toInt32), (.int (2 : Int32))]) _
            rw [len_of S118 M118]
            show own_G p.tables e below T117 (mkF m 21 #[.val (.ref a1), .val (.ref a2), .val (.int (2 : Int32)), .val (.long x1), .second] [(.int (2 : Int32)), (.int (2 : Int32))]) _
            refine own_go (fun t_ k_ => XS.icmpYes X117.here hx rfl (pc0 := 21) (pc' := 69) rfl (hb hby d5_21) rfl (flt (by decide : ¬ ((2 : Int32) < (2 : Int32)))).2.1 (by decide) (by decide) k_) ?_
            show own_G p.tables e below T117 (mkF m 69 #[.val (.ref a1), .val (.ref a2), .val (.int (2 : Int32)), .val (.long x1), .second] []) _
            refine own_go (fun t_ k_ => XS.iconst X117.here hx rfl (hb hby d5_69) k_) ?_
            show own_G p.tables e below T117 (mkF m 70 #[.val (.ref a1), .val (.ref a2), .val (.int (2 : Int32)), .val (.long x1), .second] [(.int (1 : Int32))]) _
            exact own_end (v := some (.int (1 : Int32))) X117 Bd.notSynchronized (fun h => by rw [Bd.returns] at h; cases h) (fun fs hr => retN X117 hx (z := (1 : Int32)) (t := .boolean) Bd.returns (by simp) (hb hby d5_70) hr) e117 ⟨congrArg (fun z => some (Value.int z)) (by rw [own_e0_2, own_e1_2, own_e0_2, own_e1_2]; unfold own_dom; rw [if_neg hc8_98, if_pos hc58_107, if_pos hc58_116]), N0, rfl⟩ (by decide) (by decide)
          · skip
            refine own_go (fun t_ k_ => XS.ifNo X114.here hx rfl (hb hby d5_58) rfl ((if0 _ _).trans (feq (mt (lw_eq (y1 &&& (x1 ^^^ (-1 : Int64))) (0 : Int64)).mp hc58_116)).1) k_) ?_
            show own_G p.tables e below T114 (mkF m 61 #[.val (.ref a1), .val (.ref a2), .val (.int (1 : Int32)), .val (.long x1), .second] []) _
            refine own_go (fun t_ k_ => XS.iconst X114.here hx rfl (hb hby d5_61) k_) ?_
            show own_G p.tables e below T114 (mkF m 62 #[.val (.ref a1), .val (.ref a2), .val (.int (1 : Int32)), .val (.long x1), .second] [(.int (0 : Int32))]) _
            exact own_end (v := some (.int (0 : Int32))) X114 Bd.notSynchronized (fun h => by rw [Bd.returns] at h; cases h) (fun fs hr => retN X114 hx (z := (0 : Int32)) (t := .boolean) Bd.returns (by simp) (hb hby d5_62) hr) e114 ⟨congrArg (fun z => some (Value.int z)) (by rw [own_e0_2, own_e1_2, own_e0_2, own_e1_2]; unfold own_dom; rw [if_neg hc8_98, if_pos hc58_107, if_neg hc58_116]), N0, rfl⟩ (by decide) (by decide)
        · skip
          refine own_go (fun t_ k_ => XS.ifNo X105.here hx rfl (hb hby d5_58) rfl ((if0 _ _).trans (feq (mt (lw_eq (y0 &&& (x0 ^^^ (-1 : Int64))) (0 : Int64)).mp hc58_107)).1) k_) ?_
          show own_G p.tables e below T105 (mkF m 61 #[.val (.ref a1), .val (.ref a2), .val (.int (0 : Int32)), .val (.long x0), .second] []) _
          refine own_go (fun t_ k_ => XS.iconst X105.here hx rfl (hb hby d5_61) k_) ?_
          show own_G p.tables e below T105 (mkF m 62 #[.val (.ref a1), .val (.ref a2), .val (.int (0 : Int32)), .val (.long x0), .second] [(.int (0 : Int32))]) _
          exact own_end (v := some (.int (0 : Int32))) X105 Bd.notSynchronized (fun h => by rw [Bd.returns] at h; cases h) (fun fs hr => retN X105 hx (z := (0 : Int32)) (t := .boolean) Bd.returns (by simp) (hb hby d5_62) hr) e105 ⟨congrArg (fun z => some (Value.int z)) (by rw [own_e0_2, own_e1_2, own_e0_2, own_e1_2]; unfold own_dom; rw [if_neg hc8_98, if_neg hc58_107]), N0, rfl⟩ (by decide) (by decide)
theorem own_cap {n : Int32} (h : n = 0 ∨ n = 1 ∨ n = 2) : n.toNatClampNeg ≤ 2 := by rcases h with rfl | rfl | rfl <;> decide
theorem ef_0 (m : MethodId) (q0 : Int64) (q1 : Int64) (q2 : Int64) (q3 : Int64) (q4 : Int64) (q5 : Int64) : entryFrame m #[(.long q0), (.long q1), (.long q2), (.long q3), (.long q4), (.long q5)] maxLocals = mkF m 0 #[.val (.long q0), .second, .val (.long q1), .second, .val (.long q2), .second, .val (.long q3), .second, .val (.long q4), .second, .val (.long q5), .second, .unset, .unset, .unset, .unset, .unset, .unset, .unset, .unset, .unset, .unset, .unset, .unset, .unset, .unset, .unset, .unset, .unset, .unset] [] := by first | (simp [entryFrame, mkF, argsToLocals, Value.category, maxLocals]; done) | rfl
def Q0 (Z : State) (q0 : Int64) (q1 : Int64) (q2 : Int64) (q3 : Int64) (q4 : Int64) (q5 : Int64)  (h0 : Heap) (n0 : Nat) (v : Option Value) (h : Heap) (L : List Loc) : Prop := v = some (.int (1 : Int32)) ∧ Fr n0 L
set_option maxRecDepth 65536 in
set_option maxHeartbeats 40000000 in
theorem rm0 (l : Launch) (Z : State) (a0 : Array Value) (hw : ∀ d ∈ tables_1, d.before a0 Z = true) (ws : List Jvm.Cond) (q0 : Int64) (q1 : Int64) (q2 : Int64) (q3 : Int64) (q4 : Int64) (q5 : Int64)  (h0 : Heap) (n0 : Nat) (Z0 : n0 ≤ h0.size) :
    MetFree l x (head1 (Jvm.Cond.code x code maxLocals ret :: ws) room_1) (fun a U => a = #[(.long q0), (.long q1), (.long q2), (.long q3), (.long q4), (.long q5)] ∧ Z.Warmed39 U.vm ∧ U.heap = h0) (fun _ _ _ _ _ => True) (fun _ U o U' => ∃ v L, o = .returned v ∧ Q0 Z q0 q1 q2 q3 q4 q5 h0 n0 v U'.heap L ∧ FrameEnd U o U' L 24 128) := by
  refine MetFree.of_bodySF (plainFor_of_name own_pn0) hisR ?_
  intro p e s m args below meth c s₁ Bd hml0 hP hK
  obtain ⟨rfl, hZ, hh⟩ := hP
  have hx := Bd.exec
  have hby := Bd.bytes
  have hml : c.maxLocals = 30 := hml0
  have hown : s.vm.findClass "com/example/klearance/klearance/SecurityLabelDominatesPinLaw" = some m.cls := findClass_of_methodNamed Bd.named
  have hnm := (name_of_methodNamed Bd.named Bd.method).1
  have X0 : Stand p l e room_1 s m #[(.long q0), (.long q1), (.long q2), (.long q3), (.long q4), (.long q5)] below meth c s₁ [] 0 0 := Stand.of_body Bd
  have e0 : s₁.heap = h0 := by rw [← hh, Bd.state]; rfl
  have N0 := Fr.nil n0
  refine own_top (Q := Q0 Z q0 q1 q2 q3 q4 q5 h0 n0) (ef_0 m q0 q1 q2 q3 q4 q5) ?_
  have tail123 : ∀ (la lb n1 n2 r : Int32) (oa ob : Addr) (ea0 ea1 eb0 eb1 : Int64) (ht : Heap) (Tt : State) (locs : List Loc) (cc ss : Nat), Stand p l e room_1 s m #[(.long q0), (.long q1), (.long q2), (.long q3), (.long q4), (.long q5)] below meth c Tt locs cc ss → cc ≤ 24 → ss ≤ 128 → Tt.heap = ht → Fr n0 locs → r = own_dom la lb ea0 ea1 eb0 eb1 → own_G p.tables e below Tt (mkF m 123 #[.val (.long q0), .second, .val (.long q1), .second, .val (.long q2), .second, .val (.long q3), .second, .val (.long q4), .second, .val (.long q5), .second, .val (.int la), .val (.int lb), .val (.int n1), .val (.int n2), .val (.ref oa), .val (.ref ob), .val (.int r), .val (.long ea0), .second, .val (.long ea1), .second, .val (.long eb0), .second, .val (.long eb1), .second, .unset, .unset, .unset] []) (own_P below s (Q0 Z q0 q1 q2 q3 q4 q5 h0 n0) 24 128) := by
    intro la lb n1 n2 r oa ob ea0 ea1 eb0 eb1 ht Tt locs cc ss Xt hcc hss et Nt hr
    show own_G p.tables e below Tt (mkF m 123 #[.val (.long q0), .second, .val (.long q1), .second, .val (.long q2), .second, .val (.long q3), .second, .val (.long q4), .second, .val (.long q5), .second, .val (.int la), .val (.int lb), .val (.int n1), .val (.int n2), .val (.ref oa), .val (.ref ob), .val (.int r), .val (.long ea0), .second, .val (.long ea1), .second, .val (.long eb0), .second, .val (.long eb1), .second, .unset, .unset, .unset] []) _
    refine own_go (fun t_ k_ => XS.iload Xt.here hx rfl (hb hby at_123) rfl k_) ?_
    show own_G p.tables e below Tt (mkF m 125 #[.val (.long q0), .second, .val (.long q1), .second, .val (.long q2), .second, .val (.long q3), .second, .val (.long q4), .second, .val (.long q5), .second, .val (.int la), .val (.int lb), .val (.int n1), .val (.int n2), .val (.ref oa), .val (.ref ob), .val (.int r), .val (.long ea0), .second, .val (.long ea1), .second, .val (.long eb0), .second, .val (.long eb1), .second, .unset, .unset, .unset] [(.int la)]) _
    refine own_go (fun t_ k_ => XS.iload Xt.here hx rfl (hb hby at_125) rfl k_) ?_
    show own_G p.tables e below Tt (mkF m 127 #[.val (.long q0), .second, .val (.long q1), .second, .val (.long q2), .second, .val (.long q3), .second, .val (.long q4), .second, .val (.long q5), .second, .val (.int la), .val (.int lb), .val (.int n1), .val (.int n2), .val (.ref oa), .val (.ref ob), .val (.int r), .val (.long ea0), .second, .val (.long ea1), .second, .val (.long eb0), .second, .val (.long eb1), .second, .unset, .unset, .unset] [(.int lb), (.int la)]) _
    by_cases hc127_1 : la < lb
    · skip
      refine own_go (fun t_ k_ => XS.icmpYes Xt.here hx rfl (pc0 := 127) (pc' := 134) rfl (hb hby at_127) rfl (tlt hc127_1).1 (by decide) (by decide) k_) ?_
      show own_G p.tables e below Tt (mkF m 134 #[.val (.long q0), .second, .val (.long q1), .second, .val (.long q2), .second, .val (.long q3), .second, .val (.long q4), .second, .val (.long q5), .second, .val (.int la), .val (.int lb), .val (.int n1), .val (.int n2), .val (.ref oa), .val (.ref ob), .val (.int r), .val (.long ea0), .second, .val (.long ea1), .second, .val (.long eb0), .second, .val (.long eb1), .second, .unset, .unset, .unset] []) _
      refine own_go (fun t_ k_ => XS.iconst Xt.here hx rfl (hb hby at_134) k_) ?_
      show own_G p.tables e below Tt (mkF m 135 #[.val (.long q0), .second, .val (.long q1), .second, .val (.long q2), .second, .val (.long q3), .second, .val (.long q4), .second, .val (.long q5), .second, .val (.int la), .val (.int lb), .val (.int n1), .val (.int n2), .val (.ref oa), .val (.ref ob), .val (.int r), .val (.long ea0), .second, .val (.long ea1), .second, .val (.long eb0), .second, .val (.long eb1), .second, .unset, .unset, .unset] [(.int (0 : Int32))]) _
      refine own_go (fun t_ k_ => XS.istore Xt.here hx rfl (hb hby at_135) rfl (l' := #[.val (.long q0), .second, .val (.long q1), .second, .val (.long q2), .second, .val (.long q3), .second, .val (.long q4), .second, .val (.long q5), .second, .val (.int la), .val (.int lb), .val (.int n1), .val (.int n2), .val (.ref oa), .val (.ref ob), .val (.int r), .val (.long ea0), .second, .val (.long ea1), .second, .val (.long eb0), .second, .val (.long eb1), .second, .val (.int (0 : Int32)), .unset, .unset]) rfl k_) ?_
      show own_G p.tables e below Tt (mkF m 137 #[.val (.long q0), .second, .val (.long q1), .second, .val (.long q2), .second, .val (.long q3), .second, .val (.long q4), .second, .val (.long q5), .second, .val (.int la), .val (.int lb), .val (.int n1), .val (.int n2), .val (.ref oa), .val (.ref ob), .val (.int r), .val (.long ea0), .second, .val (.long ea1), .second, .val (.long eb0), .second, .val (.long eb1), .second, .val (.int (0 : Int32)), .unset, .unset] []) _
      refine own_go (fun t_ k_ => XS.lload Xt.here hx rfl (hb hby at_137) rfl k_) ?_
      show own_G p.tables e below Tt (mkF m 139 #[.val (.long q0), .second, .val (.long q1), .second, .val (.long q2), .second, .val (.long q3), .second, .val (.long q4), .second, .val (.long q5), .second, .val (.int la), .val (.int lb), .val (.int n1), .val (.int n2), .val (.ref oa), .val (.ref ob), .val (.int r), .val (.long ea0), .second, .val (.long ea1), .second, .val (.long eb0), .second, .val (.long eb1), .second, .val (.int (0 : Int32)), .unset, .unset] [(.long ea0)]) _
      refine own_go (fun t_ k_ => XS.lload Xt.here hx rfl (hb hby at_139) rfl k_) ?_
      show own_G p.tables e below Tt (mkF m 141 #[.val (.long q0), .second, .val (.long q1), .second, .val (.long q2), .second, .val (.long q3), .second, .val (.long q4), .second, .val (.long q5), .second, .val (.int la), .val (.int lb), .val (.int n1), .val (.int n2), .val (.ref oa), .val (.ref ob), .val (.int r), .val (.long ea0), .second, .val (.long ea1), .second, .val (.long eb0), .second, .val (.long eb1), .second, .val (.int (0 : Int32)), .unset, .unset] [(.long eb0), (.long ea0)]) _
      refine own_go (fun t_ k_ => XS.lor Xt.here hx rfl (hb hby at_141) rfl k_) ?_
      show own_G p.tables e below Tt (mkF m 142 #[.val (.long q0), .second, .val (.long q1), .second, .val (.long q2), .second, .val (.long q3), .second, .val (.long q4), .second, .val (.long q5), .second, .val (.int la), .val (.int lb), .val (.int n1), .val (.int n2), .val (.ref oa), .val (.ref ob), .val (.int r), .val (.long ea0), .second, .val (.long ea1), .second, .val (.long eb0), .second, .val (.long eb1), .second, .val (.int (0 : Int32)), .unset, .unset] [(.long (ea0 ||| eb0))]) _
      refine own_go (fun t_ k_ => XS.lload Xt.here hx rfl (hb hby at_142) rfl k_) ?_
      show own_G p.tables e below Tt (mkF m 144 #[.val (.long q0), .second, .val (.long q1), .second, .val (.long q2), .second, .val (.long q3), .second, .val (.long q4), .second, .val (.long q5), .second, .val (.int la), .val (.int lb), .val (.int n1), .val (.int n2), .val (.ref oa), .val (.ref ob), .val (.int r), .val (.long ea0), .second, .val (.long ea1), .second, .val (.long eb0), .second, .val (.long eb1), .second, .val (.int (0 : Int32)), .unset, .unset] [(.long ea0), (.long (ea0 ||| eb0))]) _
      refine own_go (fun t_ k_ => XS.lcmp Xt.here hx rfl (hb hby at_144) rfl k_) ?_
      show own_G p.tables e below Tt (mkF m 145 #[.val (.long q0), .second, .val (.long q1), .second, .val (.long q2), .second, .val (.long q3), .second, .val (.long q4), .second, .val (.long q5), .second, .val (.int la), .val (.int lb), .val (.int n1), .val (.int n2), .val (.ref oa), .val (.ref ob), .val (.int r), .val (.long ea0), .second, .val (.long ea1), .second, .val (.long eb0), .second, .val (.long eb1), .second, .val (.int (0 : Int32)), .unset, .unset] [(.int (lcmpW (ea0 ||| eb0) ea0))]) _
      by_cases hc145_2 : (ea0 ||| eb0) = ea0
      · skip
        refine own_go (fun t_ k_ => XS.ifNo Xt.here hx rfl (hb hby at_145) rfl ((if0 _ _).trans (teq ((lw_eq (ea0 ||| eb0) ea0).mpr hc145_2)).2) k_) ?_
        show own_G p.tables e below Tt (mkF m 148 #[.val (.long q0), .second, .val (.long q1), .second, .val (.long q2), .second, .val (.long q3), .second, .val (.long q4), .second, .val (.long q5), .second, .val (.int la), .val (.int lb), .val (.int n1), .val (.int n2), .val (.ref oa), .val (.ref ob), .val (.int r), .val (.long ea0), .second, .val (.long ea1), .second, .val (.long eb0), .second, .val (.long eb1), .second, .val (.int (0 : Int32)), .unset, .unset] []) _
        refine own_go (fun t_ k_ => XS.lload Xt.here hx rfl (hb hby at_148) rfl k_) ?_
        show own_G p.tables e below Tt (mkF m 150 #[.val (.long q0), .second, .val (.long q1), .second, .val (.long q2), .second, .val (.long q3), .second, .val (.long q4), .second, .val (.long q5), .second, .val (.int la), .val (.int lb), .val (.int n1), .val (.int n2), .val (.ref oa), .val (.ref ob), .val (.int r), .val (.long ea0), .second, .val (.long ea1), .second, .val (.long eb0), .second, .val (.long eb1), .second, .val (.int (0 : Int32)), .unset, .unset] [(.long ea1)]) _
        refine own_go (fun t_ k_ => XS.lload Xt.here hx rfl (hb hby at_150) rfl k_) ?_
        show own_G p.tables e below Tt (mkF m 152 #[.val (.long q0), .second, .val (.long q1), .second, .val (.long q2), .second, .val (.long q3), .second, .val (.long q4), .second, .val (.long q5), .second, .val (.int la), .val (.int lb), .val (.int n1), .val (.int n2), .val (.ref oa), .val (.ref ob), .val (.int r), .val (.long ea0), .second, .val (.long ea1), .second, .val (.long eb0), .second, .val (.long eb1), .second, .val (.int (0 : Int32)), .unset, .unset] [(.long eb1), (.long ea1)]) _
        refine own_go (fun t_ k_ => XS.lor Xt.here hx rfl (hb hby at_152) rfl k_) ?_
        show own_G p.tables e below Tt (mkF m 153 #[.val (.long q0), .second, .val (.long q1), .second, .val (.long q2), .second, .val (.long q3), .second, .val (.long q4), .second, .val (.long q5), .second, .val (.int la), .val (.int lb), .val (.int n1), .val (.int n2), .val (.ref oa), .val (.ref ob), .val (.int r), .val (.long ea0), .second, .val (.long ea1), .second, .val (.long eb0), .second, .val (.long eb1), .second, .val (.int (0 : Int32)), .unset, .unset] [(.long (ea1 ||| eb1))]) _
        refine own_go (fun t_ k_ => XS.lload Xt.here hx rfl (hb hby at_153) rfl k_) ?_
        show own_G p.tables e below Tt (mkF m 155 #[.val (.long q0), .second, .val (.long q1), .second, .val (.long q2), .second, .val (.long q3), .second, .val (.long q4), .second, .val (.long q5), .second, .val (.int la), .val (.int lb), .val (.int n1), .val (.int n2), .val (.ref oa), .val (.ref ob), .val (.int r), .val (.long ea0), .second, .val (.long ea1), .second, .val (.long eb0), .second, .val (.long eb1), .second, .val (.int (0 : Int32)), .unset, .unset] [(.long ea1), (.long (ea1 ||| eb1))]) _
        refine own_go (fun t_ k_ => XS.lcmp Xt.here hx rfl (hb hby at_155) rfl k_) ?_
        show own_G p.tables e below Tt (mkF m 156 #[.val (.long q0), .second, .val (.long q1), .second, .val (.long q2), .second, .val (.long q3), .second, .val (.long q4), .second, .val (.long q5), .second, .val (.int la), .val (.int lb), .val (.int n1), .val (.int n2), .val (.ref oa), .val (.ref ob), .val (.int r), .val (.long ea0), .second, .val (.long ea1), .second, .val (.long eb0), .second, .val (.long eb1), .second, .val (.int (0 : Int32)), .unset, .unset] [(.int (lcmpW (ea1 ||| eb1) ea1))]) _
        by_cases hc156_3 : (ea1 ||| eb1) = ea1
        · skip
          refine own_go (fun t_ k_ => XS.ifNo Xt.here hx rfl (hb hby at_156) rfl ((if0 _ _).trans (teq ((lw_eq (ea1 ||| eb1) ea1).mpr hc156_3)).2) k_) ?_
          show own_G p.tables e below Tt (mkF m 159 #[.val (.long q0), .second, .val (.long q1), .second, .val (.long q2), .second, .val (.long q3), .second, .val (.long q4), .second, .val (.long q5), .second, .val (.int la), .val (.int lb), .val (.int n1), .val (.int n2), .val (.ref oa), .val (.ref ob), .val (.int r), .val (.long ea0), .second, .val (.long ea1), .second, .val (.long eb0), .second, .val (.long eb1), .second, .val (.int (0 : Int32)), .unset, .unset] []) _
          refine own_go (fun t_ k_ => XS.iconst Xt.here hx rfl (hb hby at_159) k_) ?_
          show own_G p.tables e below Tt (mkF m 160 #[.val (.long q0), .second, .val (.long q1), .second, .val (.long q2), .second, .val (.long q3), .second, .val (.long q4), .second, .val (.long q5), .second, .val (.int la), .val (.int lb), .val (.int n1), .val (.int n2), .val (.ref oa), .val (.ref ob), .val (.int r), .val (.long ea0), .second, .val (.long ea1), .second, .val (.long eb0), .second, .val (.long eb1), .second, .val (.int (0 : Int32)), .unset, .unset] [(.int (1 : Int32))]) _
          refine own_go (fun t_ k_ => XS.goto Xt.here hx rfl (pc0 := 160) (pc' := 164) rfl (hb hby at_160) (by decide) (by decide) k_) ?_
          show own_G p.tables e below Tt (mkF m 164 #[.val (.long q0), .second, .val (.long q1), .second, .val (.long q2), .second, .val (.long q3), .second, .val (.long q4), .second, .val (.long q5), .second, .val (.int la), .val (.int lb), .val (.int n1), .val (.int n2), .val (.ref oa), .val (.ref ob), .val (.int r), .val (.long ea0), .second, .val (.long ea1), .second, .val (.long eb0), .second, .val (.long eb1), .second, .val (.int (0 : Int32)), .unset, .unset] [(.int (1 : Int32))]) _
          refine own_go (fun t_ k_ => XS.istore Xt.here hx rfl (hb hby at_164) rfl (l' := #[.val (.long q0), .second, .val (.long q1), .second, .val (.long q2), .second, .val (.long q3), .second, .val (.long q4), .second, .val (.long q5), .second, .val (.int la), .val (.int lb), .val (.int n1), .val (.int n2), .val (.ref oa), .val (.ref ob), .val (.int r), .val (.long ea0), .second, .val (.long ea1), .second, .val (.long eb0), .second, .val (.long eb1), .second, .val (.int (0 : Int32)), .val (.int (1 : Int32)), .unset]) rfl k_) ?_
          show own_G p.tables e below Tt (mkF m 166 #[.val (.long q0), .second, .val (.long q1), .second, .val (.long q2), .second, .val (.long q3), .second, .val (.long q4), .second, .val (.long q5), .second, .val (.int la), .val (.int lb), .val (.int n1), .val (.int n2), .val (.ref oa), .val (.ref ob), .val (.int r), .val (.long ea0), .second, .val (.long ea1), .second, .val (.long eb0), .second, .val (.long eb1), .second, .val (.int (0 : Int32)), .val (.int (1 : Int32)), .unset] []) _
          refine own_go (fun t_ k_ => XS.iload Xt.here hx rfl (hb hby at_166) rfl k_) ?_
          show own_G p.tables e below Tt (mkF m 168 #[.val (.long q0), .second, .val (.long q1), .second, .val (.long q2), .second, .val (.long q3), .second, .val (.long q4), .second, .val (.long q5), .second, .val (.int la), .val (.int lb), .val (.int n1), .val (.int n2), .val (.ref oa), .val (.ref ob), .val (.int r), .val (.long ea0), .second, .val (.long ea1), .second, .val (.long eb0), .second, .val (.long eb1), .second, .val (.int (0 : Int32)), .val (.int (1 : Int32)), .unset] [(.int (0 : Int32))]) _
          refine own_go (fun t_ k_ => XS.ifYes Xt.here hx rfl (pc0 := 168) (pc' := 180) rfl (hb hby at_168) rfl ((if0 _ _).trans (teq (by decide : ((0 : Int32) = (0 : Int32)))).1) (by decide) (by decide) k_) ?_
          show own_G p.tables e below Tt (mkF m 180 #[.val (.long q0), .second, .val (.long q1), .second, .val (.long q2), .second, .val (.long q3), .second, .val (.long q4), .second, .val (.long q5), .second, .val (.int la), .val (.int lb), .val (.int n1), .val (.int n2), .val (.ref oa), .val (.ref ob), .val (.int r), .val (.long ea0), .second, .val (.long ea1), .second, .val (.long eb0), .second, .val (.long eb1), .second, .val (.int (0 : Int32)), .val (.int (1 : Int32)), .unset] []) _
          refine own_go (fun t_ k_ => XS.iconst Xt.here hx rfl (hb hby at_180) k_) ?_
          show own_G p.tables e below Tt (mkF m 181 #[.val (.long q0), .second, .val (.long q1), .second, .val (.long q2), .second, .val (.long q3), .second, .val (.long q4), .second, .val (.long q5), .second, .val (.int la), .val (.int lb), .val (.int n1), .val (.int n2), .val (.ref oa), .val (.ref ob), .val (.int r), .val (.long ea0), .second, .val (.long ea1), .second, .val (.long eb0), .second, .val (.long eb1), .second, .val (.int (0 : Int32)), .val (.int (1 : Int32)), .unset] [(.int (0 : Int32))]) _
          refine own_go (fun t_ k_ => XS.istore Xt.here hx rfl (hb hby at_181) rfl (l' := #[.val (.long q0), .second, .val (.long q1), .second, .val (.long q2), .second, .val (.long q3), .second, .val (.long q4), .second, .val (.long q5), .second, .val (.int la), .val (.int lb), .val (.int n1), .val (.int n2), .val (.ref oa), .val (.ref ob), .val (.int r), .val (.long ea0), .second, .val (.long ea1), .second, .val (.long eb0), .second, .val (.long eb1), .second, .val (.int (0 : Int32)), .val (.int (1 : Int32)), .val (.int (0 : Int32))]) rfl k_) ?_
          show own_G p.tables e below Tt (mkF m 183 #[.val (.long q0), .second, .val (.long q1), .second, .val (.long q2), .second, .val (.long q3), .second, .val (.long q4), .second, .val (.long q5), .second, .val (.int la), .val (.int lb), .val (.int n1), .val (.int n2), .val (.ref oa), .val (.ref ob), .val (.int r), .val (.long ea0), .second, .val (.long ea1), .second, .val (.long eb0), .second, .val (.long eb1), .second, .val (.int (0 : Int32)), .val (.int (1 : Int32)), .val (.int (0 : Int32))] []) _
          refine own_go (fun t_ k_ => XS.iload Xt.here hx rfl (hb hby at_183) rfl k_) ?_
          show own_G p.tables e below Tt (mkF m 185 #[.val (.long q0), .second, .val (.long q1), .second, .val (.long q2), .second, .val (.long q3), .second, .val (.long q4), .second, .val (.long q5), .second, .val (.int la), .val (.int lb), .val (.int n1), .val (.int n2), .val (.ref oa), .val (.ref ob), .val (.int r), .val (.long ea0), .second, .val (.long ea1), .second, .val (.long eb0), .second, .val (.long eb1), .second, .val (.int (0 : Int32)), .val (.int (1 : Int32)), .val (.int (0 : Int32))] [(.int r)]) _
          refine own_go (fun t_ k_ => XS.iload Xt.here hx rfl (hb hby at_185) rfl k_) ?_
          show own_G p.tables e below Tt (mkF m 187 #[.val (.long q0), .second, .val (.long q1), .second, .val (.long q2), .second, .val (.long q3), .second, .val (.long q4), .second, .val (.long q5), .second, .val (.int la), .val (.int lb), .val (.int n1), .val (.int n2), .val (.ref oa), .val (.ref ob), .val (.int r), .val (.long ea0), .second, .val (.long ea1), .second, .val (.long eb0), .second, .val (.long eb1), .second, .val (.int (0 : Int32)), .val (.int (1 : Int32)), .val (.int (0 : Int32))] [(.int (0 : Int32)), (.int r)]) _
          refine own_go (fun t_ k_ => XS.icmpNo Xt.here hx rfl (hb hby at_187) rfl (teq (by rw [hr]; unfold own_dom; rw [if_pos hc127_1])).2 k_) ?_
          show own_G p.tables e below Tt (mkF m 190 #[.val (.long q0), .second, .val (.long q1), .second, .val (.long q2), .second, .val (.long q3), .second, .val (.long q4), .second, .val (.long q5), .second, .val (.int la), .val (.int lb), .val (.int n1), .val (.int n2), .val (.ref oa), .val (.ref ob), .val (.int r), .val (.long ea0), .second, .val (.long ea1), .second, .val (.long eb0), .second, .val (.long eb1), .second, .val (.int (0 : Int32)), .val (.int (1 : Int32)), .val (.int (0 : Int32))] []) _
          refine own_go (fun t_ k_ => XS.iconst Xt.here hx rfl (hb hby at_190) k_) ?_
          show own_G p.tables e below Tt (mkF m 191 #[.val (.long q0), .second, .val (.long q1), .second, .val (.long q2), .second, .val (.long q3), .second, .val (.long q4), .second, .val (.long q5), .second, .val (.int la), .val (.int lb), .val (.int n1), .val (.int n2), .val (.ref oa), .val (.ref ob), .val (.int r), .val (.long ea0), .second, .val (.long ea1), .second, .val (.long eb0), .second, .val (.long eb1), .second, .val (.int (0 : Int32)), .val (.int (1 : Int32)), .val (.int (0 : Int32))] [(.int (1 : Int32))]) _
          refine own_go (fun t_ k_ => XS.goto Xt.here hx rfl (pc0 := 191) (pc' := 195) rfl (hb hby at_191) (by decide) (by decide) k_) ?_
          show own_G p.tables e below Tt (mkF m 195 #[.val (.long q0), .second, .val (.long q1), .second, .val (.long q2), .second, .val (.long q3), .second, .val (.long q4), .second, .val (.long q5), .second, .val (.int la), .val (.int lb), .val (.int n1), .val (.int n2), .val (.ref oa), .val (.ref ob), .val (.int r), .val (.long ea0), .second, .val (.long ea1), .second, .val (.long eb0), .second, .val (.long eb1), .second, .val (.int (0 : Int32)), .val (.int (1 : Int32)), .val (.int (0 : Int32))] [(.int (1 : Int32))]) _
          exact own_end (v := some (.int (1 : Int32))) Xt Bd.notSynchronized (fun h => by rw [Bd.returns] at h; cases h) (fun fs hr => retN Xt hx (z := (1 : Int32)) (t := .boolean) Bd.returns (by simp) (hb hby at_195) hr) et ⟨rfl, Nt⟩ hcc hss
        · skip
          refine own_go (fun t_ k_ => XS.ifYes Xt.here hx rfl (pc0 := 156) (pc' := 163) rfl (hb hby at_156) rfl ((if0 _ _).trans (feq (mt (lw_eq (ea1 ||| eb1) ea1).mp hc156_3)).2) (by decide) (by decide) k_) ?_
          show own_G p.tables e below Tt (mkF m 163 #[.val (.long q0), .second, .val (.long q1), .second, .val (.long q2), .second, .val (.long q3), .second, .val (.long q4), .second, .val (.long q5), .second, .val (.int la), .val (.int lb), .val (.int n1), .val (.int n2), .val (.ref oa), .val (.ref ob), .val (.int r), .val (.long ea0), .second, .val (.long ea1), .second, .val (.long eb0), .second, .val (.long eb1), .second, .val (.int (0 : Int32)), .unset, .unset] []) _
          refine own_go (fun t_ k_ => XS.iconst Xt.here hx rfl (hb hby at_163) k_) ?_
          show own_G p.tables e below Tt (mkF m 164 #[.val (.long q0), .second, .val (.long q1), .second, .val (.long q2), .second, .val (.long q3), .second, .val (.long q4), .second, .val (.long q5), .second, .val (.int la), .val (.int lb), .val (.int n1), .val (.int n2), .val (.ref oa), .val (.ref ob), .val (.int r), .val (.long ea0), .second, .val (.long ea1), .second, .val (.long eb0), .second, .val (.long eb1), .second, .val (.int (0 : Int32)), .unset, .unset] [(.int (0 : Int32))]) _
          refine own_go (fun t_ k_ => XS.istore Xt.here hx rfl (hb hby at_164) rfl (l' := #[.val (.long q0), .second, .val (.long q1), .second, .val (.long q2), .second, .val (.long q3), .second, .val (.long q4), .second, .val (.long q5), .second, .val (.int la), .val (.int lb), .val (.int n1), .val (.int n2), .val (.ref oa), .val (.ref ob), .val (.int r), .val (.long ea0), .second, .val (.long ea1), .second, .val (.long eb0), .second, .val (.long eb1), .second, .val (.int (0 : Int32)), .val (.int (0 : Int32)), .unset]) rfl k_) ?_
          show own_G p.tables e below Tt (mkF m 166 #[.val (.long q0), .second, .val (.long q1), .second, .val (.long q2), .second, .val (.long q3), .second, .val (.long q4), .second, .val (.long q5), .second, .val (.int la), .val (.int lb), .val (.int n1), .val (.int n2), .val (.ref oa), .val (.ref ob), .val (.int r), .val (.long ea0), .second, .val (.long ea1), .second, .val (.long eb0), .second, .val (.long eb1), .second, .val (.int (0 : Int32)), .val (.int (0 : Int32)), .unset] []) _
          refine own_go (fun t_ k_ => XS.iload Xt.here hx rfl (hb hby at_166) rfl k_) ?_
          show own_G p.tables e below Tt (mkF m 168 #[.val (.long q0), .second, .val (.long q1), .second, .val (.long q2), .second, .val (.long q3), .second, .val (.long q4), .second, .val (.long q5), .second, .val (.int la), .val (.int lb), .val (.int n1), .val (.int n2), .val (.ref oa), .val (.ref ob), .val (.int r), .val (.long ea0), .second, .val (.long ea1), .second, .val (.long eb0), .second, .val (.long eb1), .second, .val (.int (0 : Int32)), .val (.int (0 : Int32)), .unset] [(.int (0 : Int32))]) _
          refine own_go (fun t_ k_ => XS.ifYes Xt.here hx rfl (pc0 := 168) (pc' := 180) rfl (hb hby at_168) rfl ((if0 _ _).trans (teq (by decide : ((0 : Int32) = (0 : Int32)))).1) (by decide) (by decide) k_) ?_
          show own_G p.tables e below Tt (mkF m 180 #[.val (.long q0), .second, .val (.long q1), .second, .val (.long q2), .second, .val (.long q3), .second, .val (.long q4), .second, .val (.long q5), .second, .val (.int la), .val (.int lb), .val (.int n1), .val (.int n2), .val (.ref oa), .val (.ref ob), .val (.int r), .val (.long ea0), .second, .val (.long ea1), .second, .val (.long eb0), .second, .val (.long eb1), .second, .val (.int (0 : Int32)), .val (.int (0 : Int32)), .unset] []) _
          refine own_go (fun t_ k_ => XS.iconst Xt.here hx rfl (hb hby at_180) k_) ?_
          show own_G p.tables e below Tt (mkF m 181 #[.val (.long q0), .second, .val (.long q1), .second, .val (.long q2), .second, .val (.long q3), .second, .val (.long q4), .second, .val (.long q5), .second, .val (.int la), .val (.int lb), .val (.int n1), .val (.int n2), .val (.ref oa), .val (.ref ob), .val (.int r), .val (.long ea0), .second, .val (.long ea1), .second, .val (.long eb0), .second, .val (.long eb1), .second, .val (.int (0 : Int32)), .val (.int (0 : Int32)), .unset] [(.int (0 : Int32))]) _
          refine own_go (fun t_ k_ => XS.istore Xt.here hx rfl (hb hby at_181) rfl (l' := #[.val (.long q0), .second, .val (.long q1), .second, .val (.long q2), .second, .val (.long q3), .second, .val (.long q4), .second, .val (.long q5), .second, .val (.int la), .val (.int lb), .val (.int n1), .val (.int n2), .val (.ref oa), .val (.ref ob), .val (.int r), .val (.long ea0), .second, .val (.long ea1), .second, .val (.long eb0), .second, .val (.long eb1), .second, .val (.int (0 : Int32)), .val (.int (0 : Int32)), .val (.int (0 : Int32))]) rfl k_) ?_
          show own_G p.tables e below Tt (mkF m 183 #[.val (.long q0), .second, .val (.long q1), .second, .val (.long q2), .second, .val (.long q3), .second, .val (.long q4), .second, .val (.long q5), .second, .val (.int la), .val (.int lb), .val (.int n1), .val (.int n2), .val (.ref oa), .val (.ref ob), .val (.int r), .val (.long ea0), .second, .val (.long ea1), .second, .val (.long eb0), .second, .val (.long eb1), .second, .val (.int (0 : Int32)), .val (.int (0 : Int32)), .val (.int (0 : Int32))] []) _
          refine own_go (fun t_ k_ => XS.iload Xt.here hx rfl (hb hby at_183) rfl k_) ?_
          show own_G p.tables e below Tt (mkF m 185 #[.val (.long q0), .second, .val (.long q1), .second, .val (.long q2), .second, .val (.long q3), .second, .val (.long q4), .second, .val (.long q5), .second, .val (.int la), .val (.int lb), .val (.int n1), .val (.int n2), .val (.ref oa), .val (.ref ob), .val (.int r), .val (.long ea0), .second, .val (.long ea1), .second, .val (.long eb0), .second, .val (.long eb1), .second, .val (.int (0 : Int32)), .val (.int (0 : Int32)), .val (.int (0 : Int32))] [(.int r)]) _
          refine own_go (fun t_ k_ => XS.iload Xt.here hx rfl (hb hby at_185) rfl k_) ?_
          show own_G p.tables e below Tt (mkF m 187 #[.val (.long q0), .second, .val (.long q1), .second, .val (.long q2), .second, .val (.long q3), .second, .val (.long q4), .second, .val (.long q5), .second, .val (.int la), .val (.int lb), .val (.int n1), .val (.int n2), .val (.ref oa), .val (.ref ob), .val (.int r), .val (.long ea0), .second, .val (.long ea1), .second, .val (.long eb0), .second, .val (.long eb1), .second, .val (.int (0 : Int32)), .val (.int (0 : Int32)), .val (.int (0 : Int32))] [(.int (0 : Int32)), (.int r)]) _
          refine own_go (fun t_ k_ => XS.icmpNo Xt.here hx rfl (hb hby at_187) rfl (teq (by rw [hr]; unfold own_dom; rw [if_pos hc127_1])).2 k_) ?_
          show own_G p.tables e below Tt (mkF m 190 #[.val (.long q0), .second, .val (.long q1), .second, .val (.long q2), .second, .val (.long q3), .second, .val (.long q4), .second, .val (.long q5), .second, .val (.int la), .val (.int lb), .val (.int n1), .val (.int n2), .val (.ref oa), .val (.ref ob), .val (.int r), .val (.long ea0), .second, .val (.long ea1), .second, .val (.long eb0), .second, .val (.long eb1), .second, .val (.int (0 : Int32)), .val (.int (0 : Int32)), .val (.int (0 : Int32))] []) _
          refine own_go (fun t_ k_ => XS.iconst Xt.here hx rfl (hb hby at_190) k_) ?_
          show own_G p.tables e below Tt (mkF m 191 #[.val (.long q0), .second, .val (.long q1), .second, .val (.long q2), .second, .val (.long q3), .second, .val (.long q4), .second, .val (.long q5), .second, .val (.int la), .val (.int lb), .val (.int n1), .val (.int n2), .val (.ref oa), .val (.ref ob), .val (.int r), .val (.long ea0), .second, .val (.long ea1), .second, .val (.long eb0), .second, .val (.long eb1), .second, .val (.int (0 : Int32)), .val (.int (0 : Int32)), .val (.int (0 : Int32))] [(.int (1 : Int32))]) _
          refine own_go (fun t_ k_ => XS.goto Xt.here hx rfl (pc0 := 191) (pc' := 195) rfl (hb hby at_191) (by decide) (by decide) k_) ?_
          show own_G p.tables e below Tt (mkF m 195 #[.val (.long q0), .second, .val (.long q1), .second, .val (.long q2), .second, .val (.long q3), .second, .val (.long q4), .second, .val (.long q5), .second, .val (.int la), .val (.int lb), .val (.int n1), .val (.int n2), .val (.ref oa), .val (.ref ob), .val (.int r), .val (.long ea0), .second, .val (.long ea1), .second, .val (.long eb0), .second, .val (.long eb1), .second, .val (.int (0 : Int32)), .val (.int (0 : Int32)), .val (.int (0 : Int32))] [(.int (1 : Int32))]) _
          exact own_end (v := some (.int (1 : Int32))) Xt Bd.notSynchronized (fun h => by rw [Bd.returns] at h; cases h) (fun fs hr => retN Xt hx (z := (1 : Int32)) (t := .boolean) Bd.returns (by simp) (hb hby at_195) hr) et ⟨rfl, Nt⟩ hcc hss
      · skip
        refine own_go (fun t_ k_ => XS.ifYes Xt.here hx rfl (pc0 := 145) (pc' := 163) rfl (hb hby at_145) rfl ((if0 _ _).trans (feq (mt (lw_eq (ea0 ||| eb0) ea0).mp hc145_2)).2) (by decide) (by decide) k_) ?_
        show own_G p.tables e below Tt (mkF m 163 #[.val (.long q0), .second, .val (.long q1), .second, .val (.long q2), .second, .val (.long q3), .second, .val (.long q4), .second, .val (.long q5), .second, .val (.int la), .val (.int lb), .val (.int n1), .val (.int n2), .val (.ref oa), .val (.ref ob), .val (.int r), .val (.long ea0), .second, .val (.long ea1), .second, .val (.long eb0), .second, .val (.long eb1), .second, .val (.int (0 : Int32)), .unset, .unset] []) _
        refine own_go (fun t_ k_ => XS.iconst Xt.here hx rfl (hb hby at_163) k_) ?_
        show own_G p.tables e below Tt (mkF m 164 #[.val (.long q0), .second, .val (.long q1), .second, .val (.long q2), .second, .val (.long q3), .second, .val (.long q4), .second, .val (.long q5), .second, .val (.int la), .val (.int lb), .val (.int n1), .val (.int n2), .val (.ref oa), .val (.ref ob), .val (.int r), .val (.long ea0), .second, .val (.long ea1), .second, .val (.long eb0), .second, .val (.long eb1), .second, .val (.int (0 : Int32)), .unset, .unset] [(.int (0 : Int32))]) _
        refine own_go (fun t_ k_ => XS.istore Xt.here hx rfl (hb hby at_164) rfl (l' := #[.val (.long q0), .second, .val (.long q1), .second, .val (.long q2), .second, .val (.long q3), .second, .val (.long q4), .second, .val (.long q5), .second, .val (.int la), .val (.int lb), .val (.int n1), .val (.int n2), .val (.ref oa), .val (.ref ob), .val (.int r), .val (.long ea0), .second, .val (.long ea1), .second, .val (.long eb0), .second, .val (.long eb1), .second, .val (.int (0 : Int32)), .val (.int (0 : Int32)), .unset]) rfl k_) ?_
        show own_G p.tables e below Tt (mkF m 166 #[.val (.long q0), .second, .val (.long q1), .second, .val (.long q2), .second, .val (.long q3), .second, .val (.long q4), .second, .val (.long q5), .second, .val (.int la), .val (.int lb), .val (.int n1), .val (.int n2), .val (.ref oa), .val (.ref ob), .val (.int r), .val (.long ea0), .second, .val (.long ea1), .second, .val (.long eb0), .second, .val (.long eb1), .second, .val (.int (0 : Int32)), .val (.int (0 : Int32)), .unset] []) _
        refine own_go (fun t_ k_ => XS.iload Xt.here hx rfl (hb hby at_166) rfl k_) ?_
        show own_G p.tables e below Tt (mkF m 168 #[.val (.long q0), .second, .val (.long q1), .second, .val (.long q2), .second, .val (.long q3), .second, .val (.long q4), .second, .val (.long q5), .second, .val (.int la), .val (.int lb), .val (.int n1), .val (.int n2), .val (.ref oa), .val (.ref ob), .val (.int r), .val (.long ea0), .second, .val (.long ea1), .second, .val (.long eb0), .second, .val (.long eb1), .second, .val (.int (0 : Int32)), .val (.int (0 : Int32)), .unset] [(.int (0 : Int32))]) _
        refine own_go (fun t_ k_ => XS.ifYes Xt.here hx rfl (pc0 := 168) (pc' := 180) rfl (hb hby at_168) rfl ((if0 _ _).trans (teq (by decide : ((0 : Int32) = (0 : Int32)))).1) (by decide) (by decide) k_) ?_
        show own_G p.tables e below Tt (mkF m 180 #[.val (.long q0), .second, .val (.long q1), .second, .val (.long q2), .second, .val (.long q3), .second, .val (.long q4), .second, .val (.long q5), .second, .val (.int la), .val (.int lb), .val (.int n1), .val (.int n2), .val (.ref oa), .val (.ref ob), .val (.int r), .val (.long ea0), .second, .val (.long ea1), .second, .val (.long eb0), .second, .val (.long eb1), .second, .val (.int (0 : Int32)), .val (.int (0 : Int32)), .unset] []) _
        refine own_go (fun t_ k_ => XS.iconst Xt.here hx rfl (hb hby at_180) k_) ?_
        show own_G p.tables e below Tt (mkF m 181 #[.val (.long q0), .second, .val (.long q1), .second, .val (.long q2), .second, .val (.long q3), .second, .val (.long q4), .second, .val (.long q5), .second, .val (.int la), .val (.int lb), .val (.int n1), .val (.int n2), .val (.ref oa), .val (.ref ob), .val (.int r), .val (.long ea0), .second, .val (.long ea1), .second, .val (.long eb0), .second, .val (.long eb1), .second, .val (.int (0 : Int32)), .val (.int (0 : Int32)), .unset] [(.int (0 : Int32))]) _
        refine own_go (fun t_ k_ => XS.istore Xt.here hx rfl (hb hby at_181) rfl (l' := #[.val (.long q0), .second, .val (.long q1), .second, .val (.long q2), .second, .val (.long q3), .second, .val (.long q4), .second, .val (.long q5), .second, .val (.int la), .val (.int lb), .val (.int n1), .val (.int n2), .val (.ref oa), .val (.ref ob), .val (.int r), .val (.long ea0), .second, .val (.long ea1), .second, .val (.long eb0), .second, .val (.long eb1), .second, .val (.int (0 : Int32)), .val (.int (0 : Int32)), .val (.int (0 : Int32))]) rfl k_) ?_
        show own_G p.tables e below Tt (mkF m 183 #[.val (.long q0), .second, .val (.long q1), .second, .val (.long q2), .second, .val (.long q3), .second, .val (.long q4), .second, .val (.long q5), .second, .val (.int la), .val (.int lb), .val (.int n1), .val (.int n2), .val (.ref oa), .val (.ref ob), .val (.int r), .val (.long ea0), .second, .val (.long ea1), .second, .val (.long eb0), .second, .val (.long eb1), .second, .val (.int (0 : Int32)), .val (.int (0 : Int32)), .val (.int (0 : Int32))] []) _
        refine own_go (fun t_ k_ => XS.iload Xt.here hx rfl (hb hby at_183) rfl k_) ?_
        show own_G p.tables e below Tt (mkF m 185 #[.val (.long q0), .second, .val (.long q1), .second, .val (.long q2), .second, .val (.long q3), .second, .val (.long q4), .second, .val (.long q5), .second, .val (.int la), .val (.int lb), .val (.int n1), .val (.int n2), .val (.ref oa), .val (.ref ob), .val (.int r), .val (.long ea0), .second, .val (.long ea1), .second, .val (.long eb0), .second, .val (.long eb1), .second, .val (.int (0 : Int32)), .val (.int (0 : Int32)), .val (.int (0 : Int32))] [(.int r)]) _
        refine own_go (fun t_ k_ => XS.iload Xt.here hx rfl (hb hby at_185) rfl k_) ?_
        show own_G p.tables e below Tt (mkF m 187 #[.val (.long q0), .second, .val (.long q1), .second, .val (.long q2), .second, .val (.long q3), .second, .val (.long q4), .second, .val (.long q5), .second, .val (.int la), .val (.int lb), .val (.int n1), .val (.int n2), .val (.ref oa), .val (.ref ob), .val (.int r), .val (.long ea0), .second, .val (.long ea1), .second, .val (.long eb0), .second, .val (.long eb1), .second, .val (.int (0 : Int32)), .val (.int (0 : Int32)), .val (.int (0 : Int32))] [(.int (0 : Int32)), (.int r)]) _
        refine own_go (fun t_ k_ => XS.icmpNo Xt.here hx rfl (hb hby at_187) rfl (teq (by rw [hr]; unfold own_dom; rw [if_pos hc127_1])).2 k_) ?_
        show own_G p.tables e below Tt (mkF m 190 #[.val (.long q0), .second, .val (.long q1), .second, .val (.long q2), .second, .val (.long q3), .second, .val (.long q4), .second, .val (.long q5), .second, .val (.int la), .val (.int lb), .val (.int n1), .val (.int n2), .val (.ref oa), .val (.ref ob), .val (.int r), .val (.long ea0), .second, .val (.long ea1), .second, .val (.long eb0), .second, .val (.long eb1), .second, .val (.int (0 : Int32)), .val (.int (0 : Int32)), .val (.int (0 : Int32))] []) _
        refine own_go (fun t_ k_ => XS.iconst Xt.here hx rfl (hb hby at_190) k_) ?_
        show own_G p.tables e below Tt (mkF m 191 #[.val (.long q0), .second, .val (.long q1), .second, .val (.long q2), .second, .val (.long q3), .second, .val (.long q4), .second, .val (.long q5), .second, .val (.int la), .val (.int lb), .val (.int n1), .val (.int n2), .val (.ref oa), .val (.ref ob), .val (.int r), .val (.long ea0), .second, .val (.long ea1), .second, .val (.long eb0), .second, .val (.long eb1), .second, .val (.int (0 : Int32)), .val (.int (0 : Int32)), .val (.int (0 : Int32))] [(.int (1 : Int32))]) _
        refine own_go (fun t_ k_ => XS.goto Xt.here hx rfl (pc0 := 191) (pc' := 195) rfl (hb hby at_191) (by decide) (by decide) k_) ?_
        show own_G p.tables e below Tt (mkF m 195 #[.val (.long q0), .second, .val (.long q1), .second, .val (.long q2), .second, .val (.long q3), .second, .val (.long q4), .second, .val (.long q5), .second, .val (.int la), .val (.int lb), .val (.int n1), .val (.int n2), .val (.ref oa), .val (.ref ob), .val (.int r), .val (.long ea0), .second, .val (.long ea1), .second, .val (.long eb0), .second, .val (.long eb1), .second, .val (.int (0 : Int32)), .val (.int (0 : Int32)), .val (.int (0 : Int32))] [(.int (1 : Int32))]) _
        exact own_end (v := some (.int (1 : Int32))) Xt Bd.notSynchronized (fun h => by rw [Bd.returns] at h; cases h) (fun fs hr => retN Xt hx (z := (1 : Int32)) (t := .boolean) Bd.returns (by simp) (hb hby at_195) hr) et ⟨rfl, Nt⟩ hcc hss
    · skip
      refine own_go (fun t_ k_ => XS.icmpNo Xt.here hx rfl (hb hby at_127) rfl (flt hc127_1).1 k_) ?_
      show own_G p.tables e below Tt (mkF m 130 #[.val (.long q0), .second, .val (.long q1), .second, .val (.long q2), .second, .val (.long q3), .second, .val (.long q4), .second, .val (.long q5), .second, .val (.int la), .val (.int lb), .val (.int n1), .val (.int n2), .val (.ref oa), .val (.ref ob), .val (.int r), .val (.long ea0), .second, .val (.long ea1), .second, .val (.long eb0), .second, .val (.long eb1), .second, .unset, .unset, .unset] []) _
      refine own_go (fun t_ k_ => XS.iconst Xt.here hx rfl (hb hby at_130) k_) ?_
      show own_G p.tables e below Tt (mkF m 131 #[.val (.long q0), .second, .val (.long q1), .second, .val (.long q2), .second, .val (.long q3), .second, .val (.long q4), .second, .val (.long q5), .second, .val (.int la), .val (.int lb), .val (.int n1), .val (.int n2), .val (.ref oa), .val (.ref ob), .val (.int r), .val (.long ea0), .second, .val (.long ea1), .second, .val (.long eb0), .second, .val (.long eb1), .second, .unset, .unset, .unset] [(.int (1 : Int32))]) _
      refine own_go (fun t_ k_ => XS.goto Xt.here hx rfl (pc0 := 131) (pc' := 135) rfl (hb hby at_131) (by decide) (by decide) k_) ?_
      show own_G p.tables e below Tt (mkF m 135 #[.val (.long q0), .second, .val (.long q1), .second, .val (.long q2), .second, .val (.long q3), .second, .val (.long q4), .second, .val (.long q5), .second, .val (.int la), .val (.int lb), .val (.int n1), .val (.int n2), .val (.ref oa), .val (.ref ob), .val (.int r), .val (.long ea0), .second, .val (.long ea1), .second, .val (.long eb0), .second, .val (.long eb1), .second, .unset, .unset, .unset] [(.int (1 : Int32))]) _
      refine own_go (fun t_ k_ => XS.istore Xt.here hx rfl (hb hby at_135) rfl (l' := #[.val (.long q0), .second, .val (.long q1), .second, .val (.long q2), .second, .val (.long q3), .second, .val (.long q4), .second, .val (.long q5), .second, .val (.int la), .val (.int lb), .val (.int n1), .val (.int n2), .val (.ref oa), .val (.ref ob), .val (.int r), .val (.long ea0), .second, .val (.long ea1), .second, .val (.long eb0), .second, .val (.long eb1), .second, .val (.int (1 : Int32)), .unset, .unset]) rfl k_) ?_
      show own_G p.tables e below Tt (mkF m 137 #[.val (.long q0), .second, .val (.long q1), .second, .val (.long q2), .second, .val (.long q3), .second, .val (.long q4), .second, .val (.long q5), .second, .val (.int la), .val (.int lb), .val (.int n1), .val (.int n2), .val (.ref oa), .val (.ref ob), .val (.int r), .val (.long ea0), .second, .val (.long ea1), .second, .val (.long eb0), .second, .val (.long eb1), .second, .val (.int (1 : Int32)), .unset, .unset] []) _
      refine own_go (fun t_ k_ => XS.lload Xt.here hx rfl (hb hby at_137) rfl k_) ?_
      show own_G p.tables e below Tt (mkF m 139 #[.val (.long q0), .second, .val (.long q1), .second, .val (.long q2), .second, .val (.long q3), .second, .val (.long q4), .second, .val (.long q5), .second, .val (.int la), .val (.int lb), .val (.int n1), .val (.int n2), .val (.ref oa), .val (.ref ob), .val (.int r), .val (.long ea0), .second, .val (.long ea1), .second, .val (.long eb0), .second, .val (.long eb1), .second, .val (.int (1 : Int32)), .unset, .unset] [(.long ea0)]) _
      refine own_go (fun t_ k_ => XS.lload Xt.here hx rfl (hb hby at_139) rfl k_) ?_
      show own_G p.tables e below Tt (mkF m 141 #[.val (.long q0), .second, .val (.long q1), .second, .val (.long q2), .second, .val (.long q3), .second, .val (.long q4), .second, .val (.long q5), .second, .val (.int la), .val (.int lb), .val (.int n1), .val (.int n2), .val (.ref oa), .val (.ref ob), .val (.int r), .val (.long ea0), .second, .val (.long ea1), .second, .val (.long eb0), .second, .val (.long eb1), .second, .val (.int (1 : Int32)), .unset, .unset] [(.long eb0), (.long ea0)]) _
      refine own_go (fun t_ k_ => XS.lor Xt.here hx rfl (hb hby at_141) rfl k_) ?_
      show own_G p.tables e below Tt (mkF m 142 #[.val (.long q0), .second, .val (.long q1), .second, .val (.long q2), .second, .val (.long q3), .second, .val (.long q4), .second, .val (.long q5), .second, .val (.int la), .val (.int lb), .val (.int n1), .val (.int n2), .val (.ref oa), .val (.ref ob), .val (.int r), .val (.long ea0), .second, .val (.long ea1), .second, .val (.long eb0), .second, .val (.long eb1), .second, .val (.int (1 : Int32)), .unset, .unset] [(.long (ea0 ||| eb0))]) _
      refine own_go (fun t_ k_ => XS.lload Xt.here hx rfl (hb hby at_142) rfl k_) ?_
      show own_G p.tables e below Tt (mkF m 144 #[.val (.long q0), .second, .val (.long q1), .second, .val (.long q2), .second, .val (.long q3), .second, .val (.long q4), .second, .val (.long q5), .second, .val (.int la), .val (.int lb), .val (.int n1), .val (.int n2), .val (.ref oa), .val (.ref ob), .val (.int r), .val (.long ea0), .second, .val (.long ea1), .second, .val (.long eb0), .second, .val (.long eb1), .second, .val (.int (1 : Int32)), .unset, .unset] [(.long ea0), (.long (ea0 ||| eb0))]) _
      refine own_go (fun t_ k_ => XS.lcmp Xt.here hx rfl (hb hby at_144) rfl k_) ?_
      show own_G p.tables e below Tt (mkF m 145 #[.val (.long q0), .second, .val (.long q1), .second, .val (.long q2), .second, .val (.long q3), .second, .val (.long q4), .second, .val (.long q5), .second, .val (.int la), .val (.int lb), .val (.int n1), .val (.int n2), .val (.ref oa), .val (.ref ob), .val (.int r), .val (.long ea0), .second, .val (.long ea1), .second, .val (.long eb0), .second, .val (.long eb1), .second, .val (.int (1 : Int32)), .unset, .unset] [(.int (lcmpW (ea0 ||| eb0) ea0))]) _
      by_cases hc145_4 : (ea0 ||| eb0) = ea0
      · skip
        refine own_go (fun t_ k_ => XS.ifNo Xt.here hx rfl (hb hby at_145) rfl ((if0 _ _).trans (teq ((lw_eq (ea0 ||| eb0) ea0).mpr hc145_4)).2) k_) ?_
        show own_G p.tables e below Tt (mkF m 148 #[.val (.long q0), .second, .val (.long q1), .second, .val (.long q2), .second, .val (.long q3), .second, .val (.long q4), .second, .val (.long q5), .second, .val (.int la), .val (.int lb), .val (.int n1), .val (.int n2), .val (.ref oa), .val (.ref ob), .val (.int r), .val (.long ea0), .second, .val (.long ea1), .second, .val (.long eb0), .second, .val (.long eb1), .second, .val (.int (1 : Int32)), .unset, .unset] []) _
        refine own_go (fun t_ k_ => XS.lload Xt.here hx rfl (hb hby at_148) rfl k_) ?_
        show own_G p.tables e below Tt (mkF m 150 #[.val (.long q0), .second, .val (.long q1), .second, .val (.long q2), .second, .val (.long q3), .second, .val (.long q4), .second, .val (.long q5), .second, .val (.int la), .val (.int lb), .val (.int n1), .val (.int n2), .val (.ref oa), .val (.ref ob), .val (.int r), .val (.long ea0), .second, .val (.long ea1), .second, .val (.long eb0), .second, .val (.long eb1), .second, .val (.int (1 : Int32)), .unset, .unset] [(.long ea1)]) _
        refine own_go (fun t_ k_ => XS.lload Xt.here hx rfl (hb hby at_150) rfl k_) ?_
        show own_G p.tables e below Tt (mkF m 152 #[.val (.long q0), .second, .val (.long q1), .second, .val (.long q2), .second, .val (.long q3), .second, .val (.long q4), .second, .val (.long q5), .second, .val (.int la), .val (.int lb), .val (.int n1), .val (.int n2), .val (.ref oa), .val (.ref ob), .val (.int r), .val (.long ea0), .second, .val (.long ea1), .second, .val (.long eb0), .second, .val (.long eb1), .second, .val (.int (1 : Int32)), .unset, .unset] [(.long eb1), (.long ea1)]) _
        refine own_go (fun t_ k_ => XS.lor Xt.here hx rfl (hb hby at_152) rfl k_) ?_
        show own_G p.tables e below Tt (mkF m 153 #[.val (.long q0), .second, .val (.long q1), .second, .val (.long q2), .second, .val (.long q3), .second, .val (.long q4), .second, .val (.long q5), .second, .val (.int la), .val (.int lb), .val (.int n1), .val (.int n2), .val (.ref oa), .val (.ref ob), .val (.int r), .val (.long ea0), .second, .val (.long ea1), .second, .val (.long eb0), .second, .val (.long eb1), .second, .val (.int (1 : Int32)), .unset, .unset] [(.long (ea1 ||| eb1))]) _
        refine own_go (fun t_ k_ => XS.lload Xt.here hx rfl (hb hby at_153) rfl k_) ?_
        show own_G p.tables e below Tt (mkF m 155 #[.val (.long q0), .second, .val (.long q1), .second, .val (.long q2), .second, .val (.long q3), .second, .val (.long q4), .second, .val (.long q5), .second, .val (.int la), .val (.int lb), .val (.int n1), .val (.int n2), .val (.ref oa), .val (.ref ob), .val (.int r), .val (.long ea0), .second, .val (.long ea1), .second, .val (.long eb0), .second, .val (.long eb1), .second, .val (.int (1 : Int32)), .unset, .unset] [(.long ea1), (.long (ea1 ||| eb1))]) _
        refine own_go (fun t_ k_ => XS.lcmp Xt.here hx rfl (hb hby at_155) rfl k_) ?_
        show own_G p.tables e below Tt (mkF m 156 #[.val (.long q0), .second, .val (.long q1), .second, .val (.long q2), .second, .val (.long q3), .second, .val (.long q4), .second, .val (.long q5), .second, .val (.int la), .val (.int lb), .val (.int n1), .val (.int n2), .val (.ref oa), .val (.ref ob), .val (.int r), .val (.long ea0), .second, .val (.long ea1), .second, .val (.long eb0), .second, .val (.long eb1), .second, .val (.int (1 : Int32)), .unset, .unset] [(.int (lcmpW (ea1 ||| eb1) ea1))]) _
        by_cases hc156_5 : (ea1 ||| eb1) = ea1
        · skip
          refine own_go (fun t_ k_ => XS.ifNo Xt.here hx rfl (hb hby at_156) rfl ((if0 _ _).trans (teq ((lw_eq (ea1 ||| eb1) ea1).mpr hc156_5)).2) k_) ?_
          show own_G p.tables e below Tt (mkF m 159 #[.val (.long q0), .second, .val (.long q1), .second, .val (.long q2), .second, .val (.long q3), .second, .val (.long q4), .second, .val (.long q5), .second, .val (.int la), .val (.int lb), .val (.int n1), .val (.int n2), .val (.ref oa), .val (.ref ob), .val (.int r), .val (.long ea0), .second, .val (.long ea1), .second, .val (.long eb0), .second, .val (.long eb1), .second, .val (.int (1 : Int32)), .unset, .unset] []) _
          refine own_go (fun t_ k_ => XS.iconst Xt.here hx rfl (hb hby at_159) k_) ?_
          show own_G p.tables e below Tt (mkF m 160 #[.val (.long q0), .second, .val (.long q1), .second, .val (.long q2), .second, .val (.long q3), .second, .val (.long q4), .second, .val (.long q5), .second, .val (.int la), .val (.int lb), .val (.int n1), .val (.int n2), .val (.ref oa), .val (.ref ob), .val (.int r), .val (.long ea0), .second, .val (.long ea1), .second, .val (.long eb0), .second, .val (.long eb1), .second, .val (.int (1 : Int32)), .unset, .unset] [(.int (1 : Int32))]) _
          refine own_go (fun t_ k_ => XS.goto Xt.here hx rfl (pc0 := 160) (pc' := 164) rfl (hb hby at_160) (by decide) (by decide) k_) ?_
          show own_G p.tables e below Tt (mkF m 164 #[.val (.long q0), .second, .val (.long q1), .second, .val (.long q2), .second, .val (.long q3), .second, .val (.long q4), .second, .val (.long q5), .second, .val (.int la), .val (.int lb), .val (.int n1), .val (.int n2), .val (.ref oa), .val (.ref ob), .val (.int r), .val (.long ea0), .second, .val (.long ea1), .second, .val (.long eb0), .second, .val (.long eb1), .second, .val (.int (1 : Int32)), .unset, .unset] [(.int (1 : Int32))]) _
          refine own_go (fun t_ k_ => XS.istore Xt.here hx rfl (hb hby at_164) rfl (l' := #[.val (.long q0), .second, .val (.long q1), .second, .val (.long q2), .second, .val (.long q3), .second, .val (.long q4), .second, .val (.long q5), .second, .val (.int la), .val (.int lb), .val (.int n1), .val (.int n2), .val (.ref oa), .val (.ref ob), .val (.int r), .val (.long ea0), .second, .val (.long ea1), .second, .val (.long eb0), .second, .val (.long eb1), .second, .val (.int (1 : Int32)), .val (.int (1 : Int32)), .unset]) rfl k_) ?_
          show own_G p.tables e below Tt (mkF m 166 #[.val (.long q0), .second, .val (.long q1), .second, .val (.long q2), .second, .val (.long q3), .second, .val (.long q4), .second, .val (.long q5), .second, .val (.int la), .val (.int lb), .val (.int n1), .val (.int n2), .val (.ref oa), .val (.ref ob), .val (.int r), .val (.long ea0), .second, .val (.long ea1), .second, .val (.long eb0), .second, .val (.long eb1), .second, .val (.int (1 : Int32)), .val (.int (1 : Int32)), .unset] []) _
          refine own_go (fun t_ k_ => XS.iload Xt.here hx rfl (hb hby at_166) rfl k_) ?_
          show own_G p.tables e below Tt (mkF m 168 #[.val (.long q0), .second, .val (.long q1), .second, .val (.long q2), .second, .val (.long q3), .second, .val (.long q4), .second, .val (.long q5), .second, .val (.int la), .val (.int lb), .val (.int n1), .val (.int n2), .val (.ref oa), .val (.ref ob), .val (.int r), .val (.long ea0), .second, .val (.long ea1), .second, .val (.long eb0), .second, .val (.long eb1), .second, .val (.int (1 : Int32)), .val (.int (1 : Int32)), .unset] [(.int (1 : Int32))]) _
          refine own_go (fun t_ k_ => XS.ifNo Xt.here hx rfl (hb hby at_168) rfl ((if0 _ _).trans (feq (by decide : ¬ ((1 : Int32) = (0 : Int32)))).1) k_) ?_
          show own_G p.tables e below Tt (mkF m 171 #[.val (.long q0), .second, .val (.long q1), .second, .val (.long q2), .second, .val (.long q3), .second, .val (.long q4), .second, .val (.long q5), .second, .val (.int la), .val (.int lb), .val (.int n1), .val (.int n2), .val (.ref oa), .val (.ref ob), .val (.int r), .val (.long ea0), .second, .val (.long ea1), .second, .val (.long eb0), .second, .val (.long eb1), .second, .val (.int (1 : Int32)), .val (.int (1 : Int32)), .unset] []) _
          refine own_go (fun t_ k_ => XS.iload Xt.here hx rfl (hb hby at_171) rfl k_) ?_
          show own_G p.tables e below Tt (mkF m 173 #[.val (.long q0), .second, .val (.long q1), .second, .val (.long q2), .second, .val (.long q3), .second, .val (.long q4), .second, .val (.long q5), .second, .val (.int la), .val (.int lb), .val (.int n1), .val (.int n2), .val (.ref oa), .val (.ref ob), .val (.int r), .val (.long ea0), .second, .val (.long ea1), .second, .val (.long eb0), .second, .val (.long eb1), .second, .val (.int (1 : Int32)), .val (.int (1 : Int32)), .unset] [(.int (1 : Int32))]) _
          refine own_go (fun t_ k_ => XS.ifNo Xt.here hx rfl (hb hby at_173) rfl ((if0 _ _).trans (feq (by decide : ¬ ((1 : Int32) = (0 : Int32)))).1) k_) ?_
          show own_G p.tables e below Tt (mkF m 176 #[.val (.long q0), .second, .val (.long q1), .second, .val (.long q2), .second, .val (.long q3), .second, .val (.long q4), .second, .val (.long q5), .second, .val (.int la), .val (.int lb), .val (.int n1), .val (.int n2), .val (.ref oa), .val (.ref ob), .val (.int r), .val (.long ea0), .second, .val (.long ea1), .second, .val (.long eb0), .second, .val (.long eb1), .second, .val (.int (1 : Int32)), .val (.int (1 : Int32)), .unset] []) _
          refine own_go (fun t_ k_ => XS.iconst Xt.here hx rfl (hb hby at_176) k_) ?_
          show own_G p.tables e below Tt (mkF m 177 #[.val (.long q0), .second, .val (.long q1), .second, .val (.long q2), .second, .val (.long q3), .second, .val (.long q4), .second, .val (.long q5), .second, .val (.int la), .val (.int lb), .val (.int n1), .val (.int n2), .val (.ref oa), .val (.ref ob), .val (.int r), .val (.long ea0), .second, .val (.long ea1), .second, .val (.long eb0), .second, .val (.long eb1), .second, .val (.int (1 : Int32)), .val (.int (1 : Int32)), .unset] [(.int (1 : Int32))]) _
          refine own_go (fun t_ k_ => XS.goto Xt.here hx rfl (pc0 := 177) (pc' := 181) rfl (hb hby at_177) (by decide) (by decide) k_) ?_
          show own_G p.tables e below Tt (mkF m 181 #[.val (.long q0), .second, .val (.long q1), .second, .val (.long q2), .second, .val (.long q3), .second, .val (.long q4), .second, .val (.long q5), .second, .val (.int la), .val (.int lb), .val (.int n1), .val (.int n2), .val (.ref oa), .val (.ref ob), .val (.int r), .val (.long ea0), .second, .val (.long ea1), .second, .val (.long eb0), .second, .val (.long eb1), .second, .val (.int (1 : Int32)), .val (.int (1 : Int32)), .unset] [(.int (1 : Int32))]) _
          refine own_go (fun t_ k_ => XS.istore Xt.here hx rfl (hb hby at_181) rfl (l' := #[.val (.long q0), .second, .val (.long q1), .second, .val (.long q2), .second, .val (.long q3), .second, .val (.long q4), .second, .val (.long q5), .second, .val (.int la), .val (.int lb), .val (.int n1), .val (.int n2), .val (.ref oa), .val (.ref ob), .val (.int r), .val (.long ea0), .second, .val (.long ea1), .second, .val (.long eb0), .second, .val (.long eb1), .second, .val (.int (1 : Int32)), .val (.int (1 : Int32)), .val (.int (1 : Int32))]) rfl k_) ?_
          show own_G p.tables e below Tt (mkF m 183 #[.val (.long q0), .second, .val (.long q1), .second, .val (.long q2), .second, .val (.long q3), .second, .val (.long q4), .second, .val (.long q5), .second, .val (.int la), .val (.int lb), .val (.int n1), .val (.int n2), .val (.ref oa), .val (.ref ob), .val (.int r), .val (.long ea0), .second, .val (.long ea1), .second, .val (.long eb0), .second, .val (.long eb1), .second, .val (.int (1 : Int32)), .val (.int (1 : Int32)), .val (.int (1 : Int32))] []) _
          refine own_go (fun t_ k_ => XS.iload Xt.here hx rfl (hb hby at_183) rfl k_) ?_
          show own_G p.tables e below Tt (mkF m 185 #[.val (.long q0), .second, .val (.long q1), .second, .val (.long q2), .second, .val (.long q3), .second, .val (.long q4), .second, .val (.long q5), .second, .val (.int la), .val (.int lb), .val (.int n1), .val (.int n2), .val (.ref oa), .val (.ref ob), .val (.int r), .val (.long ea0), .second, .val (.long ea1), .second, .val (.long eb0), .second, .val (.long eb1), .second, .val (.int (1 : Int32)), .val (.int (1 : Int32)), .val (.int (1 : Int32))] [(.int r)]) _
          refine own_go (fun t_ k_ => XS.iload Xt.here hx rfl (hb hby at_185) rfl k_) ?_
          show own_G p.tables e below Tt (mkF m 187 #[.val (.long q0), .second, .val (.long q1), .second, .val (.long q2), .second, .val (.long q3), .second, .val (.long q4), .second, .val (.long q5), .second, .val (.int la), .val (.int lb), .val (.int n1), .val (.int n2), .val (.ref oa), .val (.ref ob), .val (.int r), .val (.long ea0), .second, .val (.long ea1), .second, .val (.long eb0), .second, .val (.long eb1), .second, .val (.int (1 : Int32)), .val (.int (1 : Int32)), .val (.int (1 : Int32))] [(.int (1 : Int32)), (.int r)]) _
          refine own_go (fun t_ k_ => XS.icmpNo Xt.here hx rfl (hb hby at_187) rfl (teq (by rw [hr]; unfold own_dom; rw [if_neg hc127_1, if_pos ((own_sub _ _).mp hc145_4), if_pos ((own_sub _ _).mp hc156_5)])).2 k_) ?_
          show own_G p.tables e below Tt (mkF m 190 #[.val (.long q0), .second, .val (.long q1), .second, .val (.long q2), .second, .val (.long q3), .second, .val (.long q4), .second, .val (.long q5), .second, .val (.int la), .val (.int lb), .val (.int n1), .val (.int n2), .val (.ref oa), .val (.ref ob), .val (.int r), .val (.long ea0), .second, .val (.long ea1), .second, .val (.long eb0), .second, .val (.long eb1), .second, .val (.int (1 : Int32)), .val (.int (1 : Int32)), .val (.int (1 : Int32))] []) _
          refine own_go (fun t_ k_ => XS.iconst Xt.here hx rfl (hb hby at_190) k_) ?_
          show own_G p.tables e below Tt (mkF m 191 #[.val (.long q0), .second, .val (.long q1), .second, .val (.long q2), .second, .val (.long q3), .second, .val (.long q4), .second, .val (.long q5), .second, .val (.int la), .val (.int lb), .val (.int n1), .val (.int n2), .val (.ref oa), .val (.ref ob), .val (.int r), .val (.long ea0), .second, .val (.long ea1), .second, .val (.long eb0), .second, .val (.long eb1), .second, .val (.int (1 : Int32)), .val (.int (1 : Int32)), .val (.int (1 : Int32))] [(.int (1 : Int32))]) _
          refine own_go (fun t_ k_ => XS.goto Xt.here hx rfl (pc0 := 191) (pc' := 195) rfl (hb hby at_191) (by decide) (by decide) k_) ?_
          show own_G p.tables e below Tt (mkF m 195 #[.val (.long q0), .second, .val (.long q1), .second, .val (.long q2), .second, .val (.long q3), .second, .val (.long q4), .second, .val (.long q5), .second, .val (.int la), .val (.int lb), .val (.int n1), .val (.int n2), .val (.ref oa), .val (.ref ob), .val (.int r), .val (.long ea0), .second, .val (.long ea1), .second, .val (.long eb0), .second, .val (.long eb1), .second, .val (.int (1 : Int32)), .val (.int (1 : Int32)), .val (.int (1 : Int32))] [(.int (1 : Int32))]) _
          exact own_end (v := some (.int (1 : Int32))) Xt Bd.notSynchronized (fun h => by rw [Bd.returns] at h; cases h) (fun fs hr => retN Xt hx (z := (1 : Int32)) (t := .boolean) Bd.returns (by simp) (hb hby at_195) hr) et ⟨rfl, Nt⟩ hcc hss
        · skip
          refine own_go (fun t_ k_ => XS.ifYes Xt.here hx rfl (pc0 := 156) (pc' := 163) rfl (hb hby at_156) rfl ((if0 _ _).trans (feq (mt (lw_eq (ea1 ||| eb1) ea1).mp hc156_5)).2) (by decide) (by decide) k_) ?_
          show own_G p.tables e below Tt (mkF m 163 #[.val (.long q0), .second, .val (.long q1), .second, .val (.long q2), .second, .val (.long q3), .second, .val (.long q4), .second, .val (.long q5), .second, .val (.int la), .val (.int lb), .val (.int n1), .val (.int n2), .val (.ref oa), .val (.ref ob), .val (.int r), .val (.long ea0), .second, .val (.long ea1), .second, .val (.long eb0), .second, .val (.long eb1), .second, .val (.int (1 : Int32)), .unset, .unset] []) _
          refine own_go (fun t_ k_ => XS.iconst Xt.here hx rfl (hb hby at_163) k_) ?_
          show own_G p.tables e below Tt (mkF m 164 #[.val (.long q0), .second, .val (.long q1), .second, .val (.long q2), .second, .val (.long q3), .second, .val (.long q4), .second, .val (.long q5), .second, .val (.int la), .val (.int lb), .val (.int n1), .val (.int n2), .val (.ref oa), .val (.ref ob), .val (.int r), .val (.long ea0), .second, .val (.long ea1), .second, .val (.long eb0), .second, .val (.long eb1), .second, .val (.int (1 : Int32)), .unset, .unset] [(.int (0 : Int32))]) _
          refine own_go (fun t_ k_ => XS.istore Xt.here hx rfl (hb hby at_164) rfl (l' := #[.val (.long q0), .second, .val (.long q1), .second, .val (.long q2), .second, .val (.long q3), .second, .val (.long q4), .second, .val (.long q5), .second, .val (.int la), .val (.int lb), .val (.int n1), .val (.int n2), .val (.ref oa), .val (.ref ob), .val (.int r), .val (.long ea0), .second, .val (.long ea1), .second, .val (.long eb0), .second, .val (.long eb1), .second, .val (.int (1 : Int32)), .val (.int (0 : Int32)), .unset]) rfl k_) ?_
          show own_G p.tables e below Tt (mkF m 166 #[.val (.long q0), .second, .val (.long q1), .second, .val (.long q2), .second, .val (.long q3), .second, .val (.long q4), .second, .val (.long q5), .second, .val (.int la), .val (.int lb), .val (.int n1), .val (.int n2), .val (.ref oa), .val (.ref ob), .val (.int r), .val (.long ea0), .second, .val (.long ea1), .second, .val (.long eb0), .second, .val (.long eb1), .second, .val (.int (1 : Int32)), .val (.int (0 : Int32)), .unset] []) _
          refine own_go (fun t_ k_ => XS.iload Xt.here hx rfl (hb hby at_166) rfl k_) ?_
          show own_G p.tables e below Tt (mkF m 168 #[.val (.long q0), .second, .val (.long q1), .second, .val (.long q2), .second, .val (.long q3), .second, .val (.long q4), .second, .val (.long q5), .second, .val (.int la), .val (.int lb), .val (.int n1), .val (.int n2), .val (.ref oa), .val (.ref ob), .val (.int r), .val (.long ea0), .second, .val (.long ea1), .second, .val (.long eb0), .second, .val (.long eb1), .second, .val (.int (1 : Int32)), .val (.int (0 : Int32)), .unset] [(.int (1 : Int32))]) _
          refine own_go (fun t_ k_ => XS.ifNo Xt.here hx rfl (hb hby at_168) rfl ((if0 _ _).trans (feq (by decide : ¬ ((1 : Int32) = (0 : Int32)))).1) k_) ?_
          show own_G p.tables e below Tt (mkF m 171 #[.val (.long q0), .second, .val (.long q1), .second, .val (.long q2), .second, .val (.long q3), .second, .val (.long q4), .second, .val (.long q5), .second, .val (.int la), .val (.int lb), .val (.int n1), .val (.int n2), .val (.ref oa), .val (.ref ob), .val (.int r), .val (.long ea0), .second, .val (.long ea1), .second, .val (.long eb0), .second, .val (.long eb1), .second, .val (.int (1 : Int32)), .val (.int (0 : Int32)), .unset] []) _
          refine own_go (fun t_ k_ => XS.iload Xt.here hx rfl (hb hby at_171) rfl k_) ?_
          show own_G p.tables e below Tt (mkF m 173 #[.val (.long q0), .second, .val (.long q1), .second, .val (.long q2), .second, .val (.long q3), .second, .val (.long q4), .second, .val (.long q5), .second, .val (.int la), .val (.int lb), .val (.int n1), .val (.int n2), .val (.ref oa), .val (.ref ob), .val (.int r), .val (.long ea0), .second, .val (.long ea1), .second, .val (.long eb0), .second, .val (.long eb1), .second, .val (.int (1 : Int32)), .val (.int (0 : Int32)), .unset] [(.int (0 : Int32))]) _
          refine own_go (fun t_ k_ => XS.ifYes Xt.here hx rfl (pc0 := 173) (pc' := 180) rfl (hb hby at_173) rfl ((if0 _ _).trans (teq (by decide : ((0 : Int32) = (0 : Int32)))).1) (by decide) (by decide) k_) ?_
          show own_G p.tables e below Tt (mkF m 180 #[.val (.long q0), .second, .val (.long q1), .second, .val (.long q2), .second, .val (.long q3), .second, .val (.long q4), .second, .val (.long q5), .second, .val (.int la), .val (.int lb), .val (.int n1), .val (.int n2), .val (.ref oa), .val (.ref ob), .val (.int r), .val (.long ea0), .second, .val (.long ea1), .second, .val (.long eb0), .second, .val (.long eb1), .second, .val (.int (1 : Int32)), .val (.int (0 : Int32)), .unset] []) _
          refine own_go (fun t_ k_ => XS.iconst Xt.here hx rfl (hb hby at_180) k_) ?_
          show own_G p.tables e below Tt (mkF m 181 #[.val (.long q0), .second, .val (.long q1), .second, .val (.long q2), .second, .val (.long q3), .second, .val (.long q4), .second, .val (.long q5), .second, .val (.int la), .val (.int lb), .val (.int n1), .val (.int n2), .val (.ref oa), .val (.ref ob), .val (.int r), .val (.long ea0), .second, .val (.long ea1), .second, .val (.long eb0), .second, .val (.long eb1), .second, .val (.int (1 : Int32)), .val (.int (0 : Int32)), .unset] [(.int (0 : Int32))]) _
          refine own_go (fun t_ k_ => XS.istore Xt.here hx rfl (hb hby at_181) rfl (l' := #[.val (.long q0), .second, .val (.long q1), .second, .val (.long q2), .second, .val (.long q3), .second, .val (.long q4), .second, .val (.long q5), .second, .val (.int la), .val (.int lb), .val (.int n1), .val (.int n2), .val (.ref oa), .val (.ref ob), .val (.int r), .val (.long ea0), .second, .val (.long ea1), .second, .val (.long eb0), .second, .val (.long eb1), .second, .val (.int (1 : Int32)), .val (.int (0 : Int32)), .val (.int (0 : Int32))]) rfl k_) ?_
          show own_G p.tables e below Tt (mkF m 183 #[.val (.long q0), .second, .val (.long q1), .second, .val (.long q2), .second, .val (.long q3), .second, .val (.long q4), .second, .val (.long q5), .second, .val (.int la), .val (.int lb), .val (.int n1), .val (.int n2), .val (.ref oa), .val (.ref ob), .val (.int r), .val (.long ea0), .second, .val (.long ea1), .second, .val (.long eb0), .second, .val (.long eb1), .second, .val (.int (1 : Int32)), .val (.int (0 : Int32)), .val (.int (0 : Int32))] []) _
          refine own_go (fun t_ k_ => XS.iload Xt.here hx rfl (hb hby at_183) rfl k_) ?_
          show own_G p.tables e below Tt (mkF m 185 #[.val (.long q0), .second, .val (.long q1), .second, .val (.long q2), .second, .val (.long q3), .second, .val (.long q4), .second, .val (.long q5), .second, .val (.int la), .val (.int lb), .val (.int n1), .val (.int n2), .val (.ref oa), .val (.ref ob), .val (.int r), .val (.long ea0), .second, .val (.long ea1), .second, .val (.long eb0), .second, .val (.long eb1), .second, .val (.int (1 : Int32)), .val (.int (0 : Int32)), .val (.int (0 : Int32))] [(.int r)]) _
          refine own_go (fun t_ k_ => XS.iload Xt.here hx rfl (hb hby at_185) rfl k_) ?_
          show own_G p.tables e below Tt (mkF m 187 #[.val (.long q0), .second, .val (.long q1), .second, .val (.long q2), .second, .val (.long q3), .second, .val (.long q4), .second, .val (.long q5), .second, .val (.int la), .val (.int lb), .val (.int n1), .val (.int n2), .val (.ref oa), .val (.ref ob), .val (.int r), .val (.long ea0), .second, .val (.long ea1), .second, .val (.long eb0), .second, .val (.long eb1), .second, .val (.int (1 : Int32)), .val (.int (0 : Int32)), .val (.int (0 : Int32))] [(.int (0 : Int32)), (.int r)]) _
          refine own_go (fun t_ k_ => XS.icmpNo Xt.here hx rfl (hb hby at_187) rfl (teq (by rw [hr]; unfold own_dom; rw [if_neg hc127_1, if_pos ((own_sub _ _).mp hc145_4), if_neg (mt (own_sub _ _).mpr hc156_5)])).2 k_) ?_
          show own_G p.tables e below Tt (mkF m 190 #[.val (.long q0), .second, .val (.long q1), .second, .val (.long q2), .second, .val (.long q3), .second, .val (.long q4), .second, .val (.long q5), .second, .val (.int la), .val (.int lb), .val (.int n1), .val (.int n2), .val (.ref oa), .val (.ref ob), .val (.int r), .val (.long ea0), .second, .val (.long ea1), .second, .val (.long eb0), .second, .val (.long eb1), .second, .val (.int (1 : Int32)), .val (.int (0 : Int32)), .val (.int (0 : Int32))] []) _
          refine own_go (fun t_ k_ => XS.iconst Xt.here hx rfl (hb hby at_190) k_) ?_
          show own_G p.tables e below Tt (mkF m 191 #[.val (.long q0), .second, .val (.long q1), .second, .val (.long q2), .second, .val (.long q3), .second, .val (.long q4), .second, .val (.long q5), .second, .val (.int la), .val (.int lb), .val (.int n1), .val (.int n2), .val (.ref oa), .val (.ref ob), .val (.int r), .val (.long ea0), .second, .val (.long ea1), .second, .val (.long eb0), .second, .val (.long eb1), .second, .val (.int (1 : Int32)), .val (.int (0 : Int32)), .val (.int (0 : Int32))] [(.int (1 : Int32))]) _
          refine own_go (fun t_ k_ => XS.goto Xt.here hx rfl (pc0 := 191) (pc' := 195) rfl (hb hby at_191) (by decide) (by decide) k_) ?_
          show own_G p.tables e below Tt (mkF m 195 #[.val (.long q0), .second, .val (.long q1), .second, .val (.long q2), .second, .val (.long q3), .second, .val (.long q4), .second, .val (.long q5), .second, .val (.int la), .val (.int lb), .val (.int n1), .val (.int n2), .val (.ref oa), .val (.ref ob), .val (.int r), .val (.long ea0), .second, .val (.long ea1), .second, .val (.long eb0), .second, .val (.long eb1), .second, .val (.int (1 : Int32)), .val (.int (0 : Int32)), .val (.int (0 : Int32))] [(.int (1 : Int32))]) _
          exact own_end (v := some (.int (1 : Int32))) Xt Bd.notSynchronized (fun h => by rw [Bd.returns] at h; cases h) (fun fs hr => retN Xt hx (z := (1 : Int32)) (t := .boolean) Bd.returns (by simp) (hb hby at_195) hr) et ⟨rfl, Nt⟩ hcc hss
      · skip
        refine own_go (fun t_ k_ => XS.ifYes Xt.here hx rfl (pc0 := 145) (pc' := 163) rfl (hb hby at_145) rfl ((if0 _ _).trans (feq (mt (lw_eq (ea0 ||| eb0) ea0).mp hc145_4)).2) (by decide) (by decide) k_) ?_
        show own_G p.tables e below Tt (mkF m 163 #[.val (.long q0), .second, .val (.long q1), .second, .val (.long q2), .second, .val (.long q3), .second, .val (.long q4), .second, .val (.long q5), .second, .val (.int la), .val (.int lb), .val (.int n1), .val (.int n2), .val (.ref oa), .val (.ref ob), .val (.int r), .val (.long ea0), .second, .val (.long ea1), .second, .val (.long eb0), .second, .val (.long eb1), .second, .val (.int (1 : Int32)), .unset, .unset] []) _
        refine own_go (fun t_ k_ => XS.iconst Xt.here hx rfl (hb hby at_163) k_) ?_
        show own_G p.tables e below Tt (mkF m 164 #[.val (.long q0), .second, .val (.long q1), .second, .val (.long q2), .second, .val (.long q3), .second, .val (.long q4), .second, .val (.long q5), .second, .val (.int la), .val (.int lb), .val (.int n1), .val (.int n2), .val (.ref oa), .val (.ref ob), .val (.int r), .val (.long ea0), .second, .val (.long ea1), .second, .val (.long eb0), .second, .val (.long eb1), .second, .val (.int (1 : Int32)), .unset, .unset] [(.int (0 : Int32))]) _
        refine own_go (fun t_ k_ => XS.istore Xt.here hx rfl (hb hby at_164) rfl (l' := #[.val (.long q0), .second, .val (.long q1), .second, .val (.long q2), .second, .val (.long q3), .second, .val (.long q4), .second, .val (.long q5), .second, .val (.int la), .val (.int lb), .val (.int n1), .val (.int n2), .val (.ref oa), .val (.ref ob), .val (.int r), .val (.long ea0), .second, .val (.long ea1), .second, .val (.long eb0), .second, .val (.long eb1), .second, .val (.int (1 : Int32)), .val (.int (0 : Int32)), .unset]) rfl k_) ?_
        show own_G p.tables e below Tt (mkF m 166 #[.val (.long q0), .second, .val (.long q1), .second, .val (.long q2), .second, .val (.long q3), .second, .val (.long q4), .second, .val (.long q5), .second, .val (.int la), .val (.int lb), .val (.int n1), .val (.int n2), .val (.ref oa), .val (.ref ob), .val (.int r), .val (.long ea0), .second, .val (.long ea1), .second, .val (.long eb0), .second, .val (.long eb1), .second, .val (.int (1 : Int32)), .val (.int (0 : Int32)), .unset] []) _
        refine own_go (fun t_ k_ => XS.iload Xt.here hx rfl (hb hby at_166) rfl k_) ?_
        show own_G p.tables e below Tt (mkF m 168 #[.val (.long q0), .second, .val (.long q1), .second, .val (.long q2), .second, .val (.long q3), .second, .val (.long q4), .second, .val (.long q5), .second, .val (.int la), .val (.int lb), .val (.int n1), .val (.int n2), .val (.ref oa), .val (.ref ob), .val (.int r), .val (.long ea0), .second, .val (.long ea1), .second, .val (.long eb0), .second, .val (.long eb1), .second, .val (.int (1 : Int32)), .val (.int (0 : Int32)), .unset] [(.int (1 : Int32))]) _
        refine own_go (fun t_ k_ => XS.ifNo Xt.here hx rfl (hb hby at_168) rfl ((if0 _ _).trans (feq (by decide : ¬ ((1 : Int32) = (0 : Int32)))).1) k_) ?_
        show own_G p.tables e below Tt (mkF m 171 #[.val (.long q0), .second, .val (.long q1), .second, .val (.long q2), .second, .val (.long q3), .second, .val (.long q4), .second, .val (.long q5), .second, .val (.int la), .val (.int lb), .val (.int n1), .val (.int n2), .val (.ref oa), .val (.ref ob), .val (.int r), .val (.long ea0), .second, .val (.long ea1), .second, .val (.long eb0), .second, .val (.long eb1), .second, .val (.int (1 : Int32)), .val (.int (0 : Int32)), .unset] []) _
        refine own_go (fun t_ k_ => XS.iload Xt.here hx rfl (hb hby at_171) rfl k_) ?_
        show own_G p.tables e below Tt (mkF m 173 #[.val (.long q0), .second, .val (.long q1), .second, .val (.long q2), .second, .val (.long q3), .second, .val (.long q4), .second, .val (.long q5), .second, .val (.int la), .val (.int lb), .val (.int n1), .val (.int n2), .val (.ref oa), .val (.ref ob), .val (.int r), .val (.long ea0), .second, .val (.long ea1), .second, .val (.long eb0), .second, .val (.long eb1), .second, .val (.int (1 : Int32)), .val (.int (0 : Int32)), .unset] [(.int (0 : Int32))]) _
        refine own_go (fun t_ k_ => XS.ifYes Xt.here hx rfl (pc0 := 173) (pc' := 180) rfl (hb hby at_173) rfl ((if0 _ _).trans (teq (by decide : ((0 : Int32) = (0 : Int32)))).1) (by decide) (by decide) k_) ?_
        show own_G p.tables e below Tt (mkF m 180 #[.val (.long q0), .second, .val (.long q1), .second, .val (.long q2), .second, .val (.long q3), .second, .val (.long q4), .second, .val (.long q5), .second, .val (.int la), .val (.int lb), .val (.int n1), .val (.int n2), .val (.ref oa), .val (.ref ob), .val (.int r), .val (.long ea0), .second, .val (.long ea1), .second, .val (.long eb0), .second, .val (.long eb1), .second, .val (.int (1 : Int32)), .val (.int (0 : Int32)), .unset] []) _
        refine own_go (fun t_ k_ => XS.iconst Xt.here hx rfl (hb hby at_180) k_) ?_
        show own_G p.tables e below Tt (mkF m 181 #[.val (.long q0), .second, .val (.long q1), .second, .val (.long q2), .second, .val (.long q3), .second, .val (.long q4), .second, .val (.long q5), .second, .val (.int la), .val (.int lb), .val (.int n1), .val (.int n2), .val (.ref oa), .val (.ref ob), .val (.int r), .val (.long ea0), .second, .val (.long ea1), .second, .val (.long eb0), .second, .val (.long eb1), .second, .val (.int (1 : Int32)), .val (.int (0 : Int32)), .unset] [(.int (0 : Int32))]) _
        refine own_go (fun t_ k_ => XS.istore Xt.here hx rfl (hb hby at_181) rfl (l' := #[.val (.long q0), .second, .val (.long q1), .second, .val (.long q2), .second, .val (.long q3), .second, .val (.long q4), .second, .val (.long q5), .second, .val (.int la), .val (.int lb), .val (.int n1), .val (.int n2), .val (.ref oa), .val (.ref ob), .val (.int r), .val (.long ea0), .second, .val (.long ea1), .second, .val (.long eb0), .second, .val (.long eb1), .second, .val (.int (1 : Int32)), .val (.int (0 : Int32)), .val (.int (0 : Int32))]) rfl k_) ?_
        show own_G p.tables e below Tt (mkF m 183 #[.val (.long q0), .second, .val (.long q1), .second, .val (.long q2), .second, .val (.long q3), .second, .val (.long q4), .second, .val (.long q5), .second, .val (.int la), .val (.int lb), .val (.int n1), .val (.int n2), .val (.ref oa), .val (.ref ob), .val (.int r), .val (.long ea0), .second, .val (.long ea1), .second, .val (.long eb0), .second, .val (.long eb1), .second, .val (.int (1 : Int32)), .val (.int (0 : Int32)), .val (.int (0 : Int32))] []) _
        refine own_go (fun t_ k_ => XS.iload Xt.here hx rfl (hb hby at_183) rfl k_) ?_
        show own_G p.tables e below Tt (mkF m 185 #[.val (.long q0), .second, .val (.long q1), .second, .val (.long q2), .second, .val (.long q3), .second, .val (.long q4), .second, .val (.long q5), .second, .val (.int la), .val (.int lb), .val (.int n1), .val (.int n2), .val (.ref oa), .val (.ref ob), .val (.int r), .val (.long ea0), .second, .val (.long ea1), .second, .val (.long eb0), .second, .val (.long eb1), .second, .val (.int (1 : Int32)), .val (.int (0 : Int32)), .val (.int (0 : Int32))] [(.int r)]) _
        refine own_go (fun t_ k_ => XS.iload Xt.here hx rfl (hb hby at_185) rfl k_) ?_
        show own_G p.tables e below Tt (mkF m 187 #[.val (.long q0), .second, .val (.long q1), .second, .val (.long q2), .second, .val (.long q3), .second, .val (.long q4), .second, .val (.long q5), .second, .val (.int la), .val (.int lb), .val (.int n1), .val (.int n2), .val (.ref oa), .val (.ref ob), .val (.int r), .val (.long ea0), .second, .val (.long ea1), .second, .val (.long eb0), .second, .val (.long eb1), .second, .val (.int (1 : Int32)), .val (.int (0 : Int32)), .val (.int (0 : Int32))] [(.int (0 : Int32)), (.int r)]) _
        refine own_go (fun t_ k_ => XS.icmpNo Xt.here hx rfl (hb hby at_187) rfl (teq (by rw [hr]; unfold own_dom; rw [if_neg hc127_1, if_neg (mt (own_sub _ _).mpr hc145_4)])).2 k_) ?_
        show own_G p.tables e below Tt (mkF m 190 #[.val (.long q0), .second, .val (.long q1), .second, .val (.long q2), .second, .val (.long q3), .second, .val (.long q4), .second, .val (.long q5), .second, .val (.int la), .val (.int lb), .val (.int n1), .val (.int n2), .val (.ref oa), .val (.ref ob), .val (.int r), .val (.long ea0), .second, .val (.long ea1), .second, .val (.long eb0), .second, .val (.long eb1), .second, .val (.int (1 : Int32)), .val (.int (0 : Int32)), .val (.int (0 : Int32))] []) _
        refine own_go (fun t_ k_ => XS.iconst Xt.here hx rfl (hb hby at_190) k_) ?_
        show own_G p.tables e below Tt (mkF m 191 #[.val (.long q0), .second, .val (.long q1), .second, .val (.long q2), .second, .val (.long q3), .second, .val (.long q4), .second, .val (.long q5), .second, .val (.int la), .val (.int lb), .val (.int n1), .val (.int n2), .val (.ref oa), .val (.ref ob), .val (.int r), .val (.long ea0), .second, .val (.long ea1), .second, .val (.long eb0), .second, .val (.long eb1), .second, .val (.int (1 : Int32)), .val (.int (0 : Int32)), .val (.int (0 : Int32))] [(.int (1 : Int32))]) _
        refine own_go (fun t_ k_ => XS.goto Xt.here hx rfl (pc0 := 191) (pc' := 195) rfl (hb hby at_191) (by decide) (by decide) k_) ?_
        show own_G p.tables e below Tt (mkF m 195 #[.val (.long q0), .second, .val (.long q1), .second, .val (.long q2), .second, .val (.long q3), .second, .val (.long q4), .second, .val (.long q5), .second, .val (.int la), .val (.int lb), .val (.int n1), .val (.int n2), .val (.ref oa), .val (.ref ob), .val (.int r), .val (.long ea0), .second, .val (.long ea1), .second, .val (.long eb0), .second, .val (.long eb1), .second, .val (.int (1 : Int32)), .val (.int (0 : Int32)), .val (.int (0 : Int32))] [(.int (1 : Int32))]) _
        exact own_end (v := some (.int (1 : Int32))) Xt Bd.notSynchronized (fun h => by rw [Bd.returns] at h; cases h) (fun fs hr => retN Xt hx (z := (1 : Int32)) (t := .boolean) Bd.returns (by simp) (hb hby at_195) hr) et ⟨rfl, Nt⟩ hcc hss
  have tail96 : ∀ (la lb n1 n2 r : Int32) (oa ob : Addr) (ea0 ea1 : Int64) (ht : Heap) (Tt : State) (locs : List Loc) (cc ss : Nat), Stand p l e room_1 s m #[(.long q0), (.long q1), (.long q2), (.long q3), (.long q4), (.long q5)] below meth c Tt locs cc ss → cc ≤ 24 → ss ≤ 128 → Tt.heap = ht → Fr n0 locs → r = own_dom la lb ea0 ea1 (own_e0 n2 q4) (own_e1 n2 q5) → (n2 = 0 ∨ n2 = 1 ∨ n2 = 2) → own_G p.tables e below Tt (mkF m 96 #[.val (.long q0), .second, .val (.long q1), .second, .val (.long q2), .second, .val (.long q3), .second, .val (.long q4), .second, .val (.long q5), .second, .val (.int la), .val (.int lb), .val (.int n1), .val (.int n2), .val (.ref oa), .val (.ref ob), .val (.int r), .val (.long ea0), .second, .val (.long ea1), .second, .unset, .unset, .unset, .unset, .unset, .unset, .unset] []) (own_P below s (Q0 Z q0 q1 q2 q3 q4 q5 h0 n0) 24 128) := by
    intro la lb n1 n2 r oa ob ea0 ea1 ht Tt locs cc ss Xt hcc hss et Nt hr hn
    rcases hn with rfl | rfl | rfl
    · skip
      show own_G p.tables e below Tt (mkF m 96 #[.val (.long q0), .second, .val (.long q1), .second, .val (.long q2), .second, .val (.long q3), .second, .val (.long q4), .second, .val (.long q5), .second, .val (.int la), .val (.int lb), .val (.int n1), .val (.int (0 : Int32)), .val (.ref oa), .val (.ref ob), .val (.int r), .val (.long ea0), .second, .val (.long ea1), .second, .unset, .unset, .unset, .unset, .unset, .unset, .unset] []) _
      refine own_go (fun t_ k_ => XS.iload Xt.here hx rfl (hb hby at_96) rfl k_) ?_
      show own_G p.tables e below Tt (mkF m 98 #[.val (.long q0), .second, .val (.long q1), .second, .val (.long q2), .second, .val (.long q3), .second, .val (.long q4), .second, .val (.long q5), .second, .val (.int la), .val (.int lb), .val (.int n1), .val (.int (0 : Int32)), .val (.ref oa), .val (.ref ob), .val (.int r), .val (.long ea0), .second, .val (.long ea1), .second, .unset, .unset, .unset, .unset, .unset, .unset, .unset] [(.int (0 : Int32))]) _
      refine own_go (fun t_ k_ => XS.ifYes Xt.here hx rfl (pc0 := 98) (pc' := 106) rfl (hb hby at_98) rfl ((if0 _ _).trans (flt (by decide : ¬ ((0 : Int32) < (0 : Int32)))).2.2.2) (by decide) (by decide) k_) ?_
      show own_G p.tables e below Tt (mkF m 106 #[.val (.long q0), .second, .val (.long q1), .second, .val (.long q2), .second, .val (.long q3), .second, .val (.long q4), .second, .val (.long q5), .second, .val (.int la), .val (.int lb), .val (.int n1), .val (.int (0 : Int32)), .val (.ref oa), .val (.ref ob), .val (.int r), .val (.long ea0), .second, .val (.long ea1), .second, .unset, .unset, .unset, .unset, .unset, .unset, .unset] []) _
      refine own_go (fun t_ k_ => XS.lconst Xt.here hx rfl (hb hby at_106) k_) ?_
      show own_G p.tables e below Tt (mkF m 107 #[.val (.long q0), .second, .val (.long q1), .second, .val (.long q2), .second, .val (.long q3), .second, .val (.long q4), .second, .val (.long q5), .second, .val (.int la), .val (.int lb), .val (.int n1), .val (.int (0 : Int32)), .val (.ref oa), .val (.ref ob), .val (.int r), .val (.long ea0), .second, .val (.long ea1), .second, .unset, .unset, .unset, .unset, .unset, .unset, .unset] [(.long (0 : Int64))]) _
      refine own_go (fun t_ k_ => XS.lstore Xt.here hx rfl (hb hby at_107) rfl (l' := #[.val (.long q0), .second, .val (.long q1), .second, .val (.long q2), .second, .val (.long q3), .second, .val (.long q4), .second, .val (.long q5), .second, .val (.int la), .val (.int lb), .val (.int n1), .val (.int (0 : Int32)), .val (.ref oa), .val (.ref ob), .val (.int r), .val (.long ea0), .second, .val (.long ea1), .second, .val (.long (0 : Int64)), .second, .unset, .unset, .unset, .unset, .unset]) rfl k_) ?_
      show own_G p.tables e below Tt (mkF m 109 #[.val (.long q0), .second, .val (.long q1), .second, .val (.long q2), .second, .val (.long q3), .second, .val (.long q4), .second, .val (.long q5), .second, .val (.int la), .val (.int lb), .val (.int n1), .val (.int (0 : Int32)), .val (.ref oa), .val (.ref ob), .val (.int r), .val (.long ea0), .second, .val (.long ea1), .second, .val (.long (0 : Int64)), .second, .unset, .unset, .unset, .unset, .unset] []) _
      refine own_go (fun t_ k_ => XS.iload Xt.here hx rfl (hb hby at_109) rfl k_) ?_
      show own_G p.tables e below Tt (mkF m 111 #[.val (.long q0), .second, .val (.long q1), .second, .val (.long q2), .second, .val (.long q3), .second, .val (.long q4), .second, .val (.long q5), .second, .val (.int la), .val (.int lb), .val (.int n1), .val (.int (0 : Int32)), .val (.ref oa), .val (.ref ob), .val (.int r), .val (.long ea0), .second, .val (.long ea1), .second, .val (.long (0 : Int64)), .second, .unset, .unset, .unset, .unset, .unset] [(.int (0 : Int32))]) _
      refine own_go (fun t_ k_ => XS.iconst Xt.here hx rfl (hb hby at_111) k_) ?_
      show own_G p.tables e below Tt (mkF m 112 #[.val (.long q0), .second, .val (.long q1), .second, .val (.long q2), .second, .val (.long q3), .second, .val (.long q4), .second, .val (.long q5), .second, .val (.int la), .val (.int lb), .val (.int n1), .val (.int (0 : Int32)), .val (.ref oa), .val (.ref ob), .val (.int r), .val (.long ea0), .second, .val (.long ea1), .second, .val (.long (0 : Int64)), .second, .unset, .unset, .unset, .unset, .unset] [(.int (1 : Int32)), (.int (0 : Int32))]) _
      refine own_go (fun t_ k_ => XS.icmpYes Xt.here hx rfl (pc0 := 112) (pc' := 120) rfl (hb hby at_112) rfl (flt (by decide : ¬ ((1 : Int32) < (0 : Int32)))).2.2.2 (by decide) (by decide) k_) ?_
      show own_G p.tables e below Tt (mkF m 120 #[.val (.long q0), .second, .val (.long q1), .second, .val (.long q2), .second, .val (.long q3), .second, .val (.long q4), .second, .val (.long q5), .second, .val (.int la), .val (.int lb), .val (.int n1), .val (.int (0 : Int32)), .val (.ref oa), .val (.ref ob), .val (.int r), .val (.long ea0), .second, .val (.long ea1), .second, .val (.long (0 : Int64)), .second, .unset, .unset, .unset, .unset, .unset] []) _
      refine own_go (fun t_ k_ => XS.lconst Xt.here hx rfl (hb hby at_120) k_) ?_
      show own_G p.tables e below Tt (mkF m 121 #[.val (.long q0), .second, .val (.long q1), .second, .val (.long q2), .second, .val (.long q3), .second, .val (.long q4), .second, .val (.long q5), .second, .val (.int la), .val (.int lb), .val (.int n1), .val (.int (0 : Int32)), .val (.ref oa), .val (.ref ob), .val (.int r), .val (.long ea0), .second, .val (.long ea1), .second, .val (.long (0 : Int64)), .second, .unset, .unset, .unset, .unset, .unset] [(.long (0 : Int64))]) _
      refine own_go (fun t_ k_ => XS.lstore Xt.here hx rfl (hb hby at_121) rfl (l' := #[.val (.long q0), .second, .val (.long q1), .second, .val (.long q2), .second, .val (.long q3), .second, .val (.long q4), .second, .val (.long q5), .second, .val (.int la), .val (.int lb), .val (.int n1), .val (.int (0 : Int32)), .val (.ref oa), .val (.ref ob), .val (.int r), .val (.long ea0), .second, .val (.long ea1), .second, .val (.long (0 : Int64)), .second, .val (.long (0 : Int64)), .second, .unset, .unset, .unset]) rfl k_) ?_
      show own_G p.tables e below Tt (mkF m 123 #[.val (.long q0), .second, .val (.long q1), .second, .val (.long q2), .second, .val (.long q3), .second, .val (.long q4), .second, .val (.long q5), .second, .val (.int la), .val (.int lb), .val (.int n1), .val (.int (0 : Int32)), .val (.ref oa), .val (.ref ob), .val (.int r), .val (.long ea0), .second, .val (.long ea1), .second, .val (.long (0 : Int64)), .second, .val (.long (0 : Int64)), .second, .unset, .unset, .unset] []) _
      exact tail123 _ _ _ _ _ _ _ _ _ _ _ _ _ _ _ _ Xt hcc hss et Nt (by rw [hr]; simp only [own_e0_0, own_e0_1, own_e0_2, own_e1_0, own_e1_1, own_e1_2])
    · skip
      show own_G p.tables e below Tt (mkF m 96 #[.val (.long q0), .second, .val (.long q1), .second, .val (.long q2), .second, .val (.long q3), .second, .val (.long q4), .second, .val (.long q5), .second, .val (.int la), .val (.int lb), .val (.int n1), .val (.int (1 : Int32)), .val (.ref oa), .val (.ref ob), .val (.int r), .val (.long ea0), .second, .val (.long ea1), .second, .unset, .unset, .unset, .unset, .unset, .unset, .unset] []) _
      refine own_go (fun t_ k_ => XS.iload Xt.here hx rfl (hb hby at_96) rfl k_) ?_
      show own_G p.tables e below Tt (mkF m 98 #[.val (.long q0), .second, .val (.long q1), .second, .val (.long q2), .second, .val (.long q3), .second, .val (.long q4), .second, .val (.long q5), .second, .val (.int la), .val (.int lb), .val (.int n1), .val (.int (1 : Int32)), .val (.ref oa), .val (.ref ob), .val (.int r), .val (.long ea0), .second, .val (.long ea1), .second, .unset, .unset, .unset, .unset, .unset, .unset, .unset] [(.int (1 : Int32))]) _
      refine own_go (fun t_ k_ => XS.ifNo Xt.here hx rfl (hb hby at_98) rfl ((if0 _ _).trans (tlt (by decide : ((0 : Int32) < (1 : Int32)))).2.2.2) k_) ?_
      show own_G p.tables e below Tt (mkF m 101 #[.val (.long q0), .second, .val (.long q1), .second, .val (.long q2), .second, .val (.long q3), .second, .val (.long q4), .second, .val (.long q5), .second, .val (.int la), .val (.int lb), .val (.int n1), .val (.int (1 : Int32)), .val (.ref oa), .val (.ref ob), .val (.int r), .val (.long ea0), .second, .val (.long ea1), .second, .unset, .unset, .unset, .unset, .unset, .unset, .unset] []) _
      refine own_go (fun t_ k_ => XS.lload Xt.here hx rfl (hb hby at_101) rfl k_) ?_
      show own_G p.tables e below Tt (mkF m 103 #[.val (.long q0), .second, .val (.long q1), .second, .val (.long q2), .second, .val (.long q3), .second, .val (.long q4), .second, .val (.long q5), .second, .val (.int la), .val (.int lb), .val (.int n1), .val (.int (1 : Int32)), .val (.ref oa), .val (.ref ob), .val (.int r), .val (.long ea0), .second, .val (.long ea1), .second, .unset, .unset, .unset, .unset, .unset, .unset, .unset] [(.long q4)]) _
      refine own_go (fun t_ k_ => XS.goto Xt.here hx rfl (pc0 := 103) (pc' := 107) rfl (hb hby at_103) (by decide) (by decide) k_) ?_
      show own_G p.tables e below Tt (mkF m 107 #[.val (.long q0), .second, .val (.long q1), .second, .val (.long q2), .second, .val (.long q3), .second, .val (.long q4), .second, .val (.long q5), .second, .val (.int la), .val (.int lb), .val (.int n1), .val (.int (1 : Int32)), .val (.ref oa), .val (.ref ob), .val (.int r), .val (.long ea0), .second, .val (.long ea1), .second, .unset, .unset, .unset, .unset, .unset, .unset, .unset] [(.long q4)]) _
      refine own_go (fun t_ k_ => XS.lstore Xt.here hx rfl (hb hby at_107) rfl (l' := #[.val (.long q0), .second, .val (.long q1), .second, .val (.long q2), .second, .val (.long q3), .second, .val (.long q4), .second, .val (.long q5), .second, .val (.int la), .val (.int lb), .val (.int n1), .val (.int (1 : Int32)), .val (.ref oa), .val (.ref ob), .val (.int r), .val (.long ea0), .second, .val (.long ea1), .second, .val (.long q4), .second, .unset, .unset, .unset, .unset, .unset]) rfl k_) ?_
      show own_G p.tables e below Tt (mkF m 109 #[.val (.long q0), .second, .val (.long q1), .second, .val (.long q2), .second, .val (.long q3), .second, .val (.long q4), .second, .val (.long q5), .second, .val (.int la), .val (.int lb), .val (.int n1), .val (.int (1 : Int32)), .val (.ref oa), .val (.ref ob), .val (.int r), .val (.long ea0), .second, .val (.long ea1), .second, .val (.long q4), .second, .unset, .unset, .unset, .unset, .unset] []) _
      refine own_go (fun t_ k_ => XS.iload Xt.here hx rfl (hb hby at_109) rfl k_) ?_
      show own_G p.tables e below Tt (mkF m 111 #[.val (.long q0), .second, .val (.long q1), .second, .val (.long q2), .second, .val (.long q3), .second, .val (.long q4), .second, .val (.long q5), .second, .val (.int la), .val (.int lb), .val (.int n1), .val (.int (1 : Int32)), .val (.ref oa), .val (.ref ob), .val (.int r), .val (.long ea0), .second, .val (.long ea1), .second, .val (.long q4), .second, .unset, .unset, .unset, .unset, .unset] [(.int (1 : Int32))]) _
      refine own_go (fun t_ k_ => XS.iconst Xt.here hx rfl (hb hby at_111) k_) ?_
      show own_G p.tables e below Tt (mkF m 112 #[.val (.long q0), .second, .val (.long q1), .second, .val (.long q2), .second, .val (.long q3), .second, .val (.long q4), .second, .val (.long q5), .second, .val (.int la), .val (.int lb), .val (.int n1), .val (.int (1 : Int32)), .val (.ref oa), .val (.ref ob), .val (.int r), .val (.long ea0), .second, .val (.long ea1), .second, .val (.long q4), .second, .unset, .unset, .unset, .unset, .unset] [(.int (1 : Int32)), (.int (1 : Int32))]) _
      refine own_go (fun t_ k_ => XS.icmpYes Xt.here hx rfl (pc0 := 112) (pc' := 120) rfl (hb hby at_112) rfl (flt (by decide : ¬ ((1 : Int32) < (1 : Int32)))).2.2.2 (by decide) (by decide) k_) ?_
      show own_G p.tables e below Tt (mkF m 120 #[.val (.long q0), .second, .val (.long q1), .second, .val (.long q2), .second, .val (.long q3), .second, .val (.long q4), .second, .val (.long q5), .second, .val (.int la), .val (.int lb), .val (.int n1), .val (.int (1 : Int32)), .val (.ref oa), .val (.ref ob), .val (.int r), .val (.long ea0), .second, .val (.long ea1), .second, .val (.long q4), .second, .unset, .unset, .unset, .unset, .unset] []) _
      refine own_go (fun t_ k_ => XS.lconst Xt.here hx rfl (hb hby at_120) k_) ?_
      show own_G p.tables e below Tt (mkF m 121 #[.val (.long q0), .second, .val (.long q1), .second, .val (.long q2), .second, .val (.long q3), .second, .val (.long q4), .second, .val (.long q5), .second, .val (.int la), .val (.int lb), .val (.int n1), .val (.int (1 : Int32)), .val (.ref oa), .val (.ref ob), .val (.int r), .val (.long ea0), .second, .val (.long ea1), .second, .val (.long q4), .second, .unset, .unset, .unset, .unset, .unset] [(.long (0 : Int64))]) _
      refine own_go (fun t_ k_ => XS.lstore Xt.here hx rfl (hb hby at_121) rfl (l' := #[.val (.long q0), .second, .val (.long q1), .second, .val (.long q2), .second, .val (.long q3), .second, .val (.long q4), .second, .val (.long q5), .second, .val (.int la), .val (.int lb), .val (.int n1), .val (.int (1 : Int32)), .val (.ref oa), .val (.ref ob), .val (.int r), .val (.long ea0), .second, .val (.long ea1), .second, .val (.long q4), .second, .val (.long (0 : Int64)), .second, .unset, .unset, .unset]) rfl k_) ?_
      show own_G p.tables e below Tt (mkF m 123 #[.val (.long q0), .second, .val (.long q1), .second, .val (.long q2), .second, .val (.long q3), .second, .val (.long q4), .second, .val (.long q5), .second, .val (.int la), .val (.int lb), .val (.int n1), .val (.int (1 : Int32)), .val (.ref oa), .val (.ref ob), .val (.int r), .val (.long ea0), .second, .val (.long ea1), .second, .val (.long q4), .second, .val (.long (0 : Int64)), .second, .unset, .unset, .unset] []) _
      exact tail123 _ _ _ _ _ _ _ _ _ _ _ _ _ _ _ _ Xt hcc hss et Nt (by rw [hr]; simp only [own_e0_0, own_e0_1, own_e0_2, own_e1_0, own_e1_1, own_e1_2])
    · skip
      show own_G p.tables e below Tt (mkF m 96 #[.val (.long q0), .second, .val (.long q1), .second, .val (.long q2), .second, .val (.long q3), .second, .val (.long q4), .second, .val (.long q5), .second, .val (.int la), .val (.int lb), .val (.int n1), .val (.int (2 : Int32)), .val (.ref oa), .val (.ref ob), .val (.int r), .val (.long ea0), .second, .val (.long ea1), .second, .unset, .unset, .unset, .unset, .unset, .unset, .unset] []) _
      refine own_go (fun t_ k_ => XS.iload Xt.here hx rfl (hb hby at_96) rfl k_) ?_
      show own_G p.tables e below Tt (mkF m 98 #[.val (.long q0), .second, .val (.long q1), .second, .val (.long q2), .second, .val (.long q3), .second, .val (.long q4), .second, .val (.long q5), .second, .val (.int la), .val (.int lb), .val (.int n1), .val (.int (2 : Int32)), .val (.ref oa), .val (.ref ob), .val (.int r), .val (.long ea0), .second, .val (.long ea1), .second, .unset, .unset, .unset, .unset, .unset, .unset, .unset] [(.int (2 : Int32))]) _
      refine own_go (fun t_ k_ => XS.ifNo Xt.here hx rfl (hb hby at_98) rfl ((if0 _ _).trans (tlt (by decide : ((0 : Int32) < (2 : Int32)))).2.2.2) k_) ?_
      show own_G p.tables e below Tt (mkF m 101 #[.val (.long q0), .second, .val (.long q1), .second, .val (.long q2), .second, .val (.long q3), .second, .val (.long q4), .second, .val (.long q5), .second, .val (.int la), .val (.int lb), .val (.int n1), .val (.int (2 : Int32)), .val (.ref oa), .val (.ref ob), .val (.int r), .val (.long ea0), .second, .val (.long ea1), .second, .unset, .unset, .unset, .unset, .unset, .unset, .unset] []) _
      refine own_go (fun t_ k_ => XS.lload Xt.here hx rfl (hb hby at_101) rfl k_) ?_
      show own_G p.tables e below Tt (mkF m 103 #[.val (.long q0), .second, .val (.long q1), .second, .val (.long q2), .second, .val (.long q3), .second, .val (.long q4), .second, .val (.long q5), .second, .val (.int la), .val (.int lb), .val (.int n1), .val (.int (2 : Int32)), .val (.ref oa), .val (.ref ob), .val (.int r), .val (.long ea0), .second, .val (.long ea1), .second, .unset, .unset, .unset, .unset, .unset, .unset, .unset] [(.long q4)]) _
      refine own_go (fun t_ k_ => XS.goto Xt.here hx rfl (pc0 := 103) (pc' := 107) rfl (hb hby at_103) (by decide) (by decide) k_) ?_
      show own_G p.tables e below Tt (mkF m 107 #[.val (.long q0), .second, .val (.long q1), .second, .val (.long q2), .second, .val (.long q3), .second, .val (.long q4), .second, .val (.long q5), .second, .val (.int la), .val (.int lb), .val (.int n1), .val (.int (2 : Int32)), .val (.ref oa), .val (.ref ob), .val (.int r), .val (.long ea0), .second, .val (.long ea1), .second, .unset, .unset, .unset, .unset, .unset, .unset, .unset] [(.long q4)]) _
      refine own_go (fun t_ k_ => XS.lstore Xt.here hx rfl (hb hby at_107) rfl (l' := #[.val (.long q0), .second, .val (.long q1), .second, .val (.long q2), .second, .val (.long q3), .second, .val (.long q4), .second, .val (.long q5), .second, .val (.int la), .val (.int lb), .val (.int n1), .val (.int (2 : Int32)), .val (.ref oa), .val (.ref ob), .val (.int r), .val (.long ea0), .second, .val (.long ea1), .second, .val (.long q4), .second, .unset, .unset, .unset, .unset, .unset]) rfl k_) ?_
      show own_G p.tables e below Tt (mkF m 109 #[.val (.long q0), .second, .val (.long q1), .second, .val (.long q2), .second, .val (.long q3), .second, .val (.long q4), .second, .val (.long q5), .second, .val (.int la), .val (.int lb), .val (.int n1), .val (.int (2 : Int32)), .val (.ref oa), .val (.ref ob), .val (.int r), .val (.long ea0), .second, .val (.long ea1), .second, .val (.long q4), .second, .unset, .unset, .unset, .unset, .unset] []) _
      refine own_go (fun t_ k_ => XS.iload Xt.here hx rfl (hb hby at_109) rfl k_) ?_
      show own_G p.tables e below Tt (mkF m 111 #[.val (.long q0), .second, .val (.long q1), .second, .val (.long q2), .second, .val (.long q3), .second, .val (.long q4), .second, .val (.long q5), .second, .val (.int la), .val (.int lb), .val (.int n1), .val (.int (2 : Int32)), .val (.ref oa), .val (.ref ob), .val (.int r), .val (.long ea0), .second, .val (.long ea1), .second, .val (.long q4), .second, .unset, .unset, .unset, .unset, .unset] [(.int (2 : Int32))]) _
      refine own_go (fun t_ k_ => XS.iconst Xt.here hx rfl (hb hby at_111) k_) ?_
      show own_G p.tables e below Tt (mkF m 112 #[.val (.long q0), .second, .val (.long q1), .second, .val (.long q2), .second, .val (.long q3), .second, .val (.long q4), .second, .val (.long q5), .second, .val (.int la), .val (.int lb), .val (.int n1), .val (.int (2 : Int32)), .val (.ref oa), .val (.ref ob), .val (.int r), .val (.long ea0), .second, .val (.long ea1), .second, .val (.long q4), .second, .unset, .unset, .unset, .unset, .unset] [(.int (1 : Int32)), (.int (2 : Int32))]) _
      refine own_go (fun t_ k_ => XS.icmpNo Xt.here hx rfl (hb hby at_112) rfl (tlt (by decide : ((1 : Int32) < (2 : Int32)))).2.2.2 k_) ?_
      show own_G p.tables e below Tt (mkF m 115 #[.val (.long q0), .second, .val (.long q1), .second, .val (.long q2), .second, .val (.long q3), .second, .val (.long q4), .second, .val (.long q5), .second, .val (.int la), .val (.int lb), .val (.int n1), .val (.int (2 : Int32)), .val (.ref oa), .val (.ref ob), .val (.int r), .val (.long ea0), .second, .val (.long ea1), .second, .val (.long q4), .second, .unset, .unset, .unset, .unset, .unset] []) _
      refine own_go (fun t_ k_ => XS.lload Xt.here hx rfl (hb hby at_115) rfl k_) ?_
      show own_G p.tables e below Tt (mkF m 117 #[.val (.long q0), .second, .val (.long q1), .second, .val (.long q2), .second, .val (.long q3), .second, .val (.long q4), .second, .val (.long q5), .second, .val (.int la), .val (.int lb), .val (.int n1), .val (.int (2 : Int32)), .val (.ref oa), .val (.ref ob), .val (.int r), .val (.long ea0), .second, .val (.long ea1), .second, .val (.long q4), .second, .unset, .unset, .unset, .unset, .unset] [(.long q5)]) _
      refine own_go (fun t_ k_ => XS.goto Xt.here hx rfl (pc0 := 117) (pc' := 121) rfl (hb hby at_117) (by decide) (by decide) k_) ?_
      show own_G p.tables e below Tt (mkF m 121 #[.val (.long q0), .second, .val (.long q1), .second, .val (.long q2), .second, .val (.long q3), .second, .val (.long q4), .second, .val (.long q5), .second, .val (.int la), .val (.int lb), .val (.int n1), .val (.int (2 : Int32)), .val (.ref oa), .val (.ref ob), .val (.int r), .val (.long ea0), .second, .val (.long ea1), .second, .val (.long q4), .second, .unset, .unset, .unset, .unset, .unset] [(.long q5)]) _
      refine own_go (fun t_ k_ => XS.lstore Xt.here hx rfl (hb hby at_121) rfl (l' := #[.val (.long q0), .second, .val (.long q1), .second, .val (.long q2), .second, .val (.long q3), .second, .val (.long q4), .second, .val (.long q5), .second, .val (.int la), .val (.int lb), .val (.int n1), .val (.int (2 : Int32)), .val (.ref oa), .val (.ref ob), .val (.int r), .val (.long ea0), .second, .val (.long ea1), .second, .val (.long q4), .second, .val (.long q5), .second, .unset, .unset, .unset]) rfl k_) ?_
      show own_G p.tables e below Tt (mkF m 123 #[.val (.long q0), .second, .val (.long q1), .second, .val (.long q2), .second, .val (.long q3), .second, .val (.long q4), .second, .val (.long q5), .second, .val (.int la), .val (.int lb), .val (.int n1), .val (.int (2 : Int32)), .val (.ref oa), .val (.ref ob), .val (.int r), .val (.long ea0), .second, .val (.long ea1), .second, .val (.long q4), .second, .val (.long q5), .second, .unset, .unset, .unset] []) _
      exact tail123 _ _ _ _ _ _ _ _ _ _ _ _ _ _ _ _ Xt hcc hss et Nt (by rw [hr]; simp only [own_e0_0, own_e0_1, own_e0_2, own_e1_0, own_e1_1, own_e1_2])
  have tail69 : ∀ (la lb n1 n2 r : Int32) (oa ob : Addr)  (ht : Heap) (Tt : State) (locs : List Loc) (cc ss : Nat), Stand p l e room_1 s m #[(.long q0), (.long q1), (.long q2), (.long q3), (.long q4), (.long q5)] below meth c Tt locs cc ss → cc ≤ 24 → ss ≤ 128 → Tt.heap = ht → Fr n0 locs → r = own_dom la lb (own_e0 n1 q2) (own_e1 n1 q3) (own_e0 n2 q4) (own_e1 n2 q5) → (n1 = 0 ∨ n1 = 1 ∨ n1 = 2) → (n2 = 0 ∨ n2 = 1 ∨ n2 = 2) → own_G p.tables e below Tt (mkF m 69 #[.val (.long q0), .second, .val (.long q1), .second, .val (.long q2), .second, .val (.long q3), .second, .val (.long q4), .second, .val (.long q5), .second, .val (.int la), .val (.int lb), .val (.int n1), .val (.int n2), .val (.ref oa), .val (.ref ob), .val (.int r), .unset, .unset, .unset, .unset, .unset, .unset, .unset, .unset, .unset, .unset, .unset] []) (own_P below s (Q0 Z q0 q1 q2 q3 q4 q5 h0 n0) 24 128) := by
    intro la lb n1 n2 r oa ob  ht Tt locs cc ss Xt hcc hss et Nt hr hn hn2
    rcases hn with rfl | rfl | rfl
    · skip
      show own_G p.tables e below Tt (mkF m 69 #[.val (.long q0), .second, .val (.long q1), .second, .val (.long q2), .second, .val (.long q3), .second, .val (.long q4), .second, .val (.long q5), .second, .val (.int la), .val (.int lb), .val (.int (0 : Int32)), .val (.int n2), .val (.ref oa), .val (.ref ob), .val (.int r), .unset, .unset, .unset, .unset, .unset, .unset, .unset, .unset, .unset, .unset, .unset] []) _
      refine own_go (fun t_ k_ => XS.iload Xt.here hx rfl (hb hby at_69) rfl k_) ?_
      show own_G p.tables e below Tt (mkF m 71 #[.val (.long q0), .second, .val (.long q1), .second, .val (.long q2), .second, .val (.long q3), .second, .val (.long q4), .second, .val (.long q5), .second, .val (.int la), .val (.int lb), .val (.int (0 : Int32)), .val (.int n2), .val (.ref oa), .val (.ref ob), .val (.int r), .unset, .unset, .unset, .unset, .unset, .unset, .unset, .unset, .unset, .unset, .unset] [(.int (0 : Int32))]) _
      refine own_go (fun t_ k_ => XS.ifYes Xt.here hx rfl (pc0 := 71) (pc' := 79) rfl (hb hby at_71) rfl ((if0 _ _).trans (flt (by decide : ¬ ((0 : Int32) < (0 : Int32)))).2.2.2) (by decide) (by decide) k_) ?_
      show own_G p.tables e below Tt (mkF m 79 #[.val (.long q0), .second, .val (.long q1), .second, .val (.long q2), .second, .val (.long q3), .second, .val (.long q4), .second, .val (.long q5), .second, .val (.int la), .val (.int lb), .val (.int (0 : Int32)), .val (.int n2), .val (.ref oa), .val (.ref ob), .val (.int r), .unset, .unset, .unset, .unset, .unset, .unset, .unset, .unset, .unset, .unset, .unset] []) _
      refine own_go (fun t_ k_ => XS.lconst Xt.here hx rfl (hb hby at_79) k_) ?_
      show own_G p.tables e below Tt (mkF m 80 #[.val (.long q0), .second, .val (.long q1), .second, .val (.long q2), .second, .val (.long q3), .second, .val (.long q4), .second, .val (.long q5), .second, .val (.int la), .val (.int lb), .val (.int (0 : Int32)), .val (.int n2), .val (.ref oa), .val (.ref ob), .val (.int r), .unset, .unset, .unset, .unset, .unset, .unset, .unset, .unset, .unset, .unset, .unset] [(.long (0 : Int64))]) _
      refine own_go (fun t_ k_ => XS.lstore Xt.here hx rfl (hb hby at_80) rfl (l' := #[.val (.long q0), .second, .val (.long q1), .second, .val (.long q2), .second, .val (.long q3), .second, .val (.long q4), .second, .val (.long q5), .second, .val (.int la), .val (.int lb), .val (.int (0 : Int32)), .val (.int n2), .val (.ref oa), .val (.ref ob), .val (.int r), .val (.long (0 : Int64)), .second, .unset, .unset, .unset, .unset, .unset, .unset, .unset, .unset, .unset]) rfl k_) ?_
      show own_G p.tables e below Tt (mkF m 82 #[.val (.long q0), .second, .val (.long q1), .second, .val (.long q2), .second, .val (.long q3), .second, .val (.long q4), .second, .val (.long q5), .second, .val (.int la), .val (.int lb), .val (.int (0 : Int32)), .val (.int n2), .val (.ref oa), .val (.ref ob), .val (.int r), .val (.long (0 : Int64)), .second, .unset, .unset, .unset, .unset, .unset, .unset, .unset, .unset, .unset] []) _
      refine own_go (fun t_ k_ => XS.iload Xt.here hx rfl (hb hby at_82) rfl k_) ?_
      show own_G p.tables e below Tt (mkF m 84 #[.val (.long q0), .second, .val (.long q1), .second, .val (.long q2), .second, .val (.long q3), .second, .val (.long q4), .second, .val (.long q5), .second, .val (.int la), .val (.int lb), .val (.int (0 : Int32)), .val (.int n2), .val (.ref oa), .val (.ref ob), .val (.int r), .val (.long (0 : Int64)), .second, .unset, .unset, .unset, .unset, .unset, .unset, .unset, .unset, .unset] [(.int (0 : Int32))]) _
      refine own_go (fun t_ k_ => XS.iconst Xt.here hx rfl (hb hby at_84) k_) ?_
      show own_G p.tables e below Tt (mkF m 85 #[.val (.long q0), .second, .val (.long q1), .second, .val (.long q2), .second, .val (.long q3), .second, .val (.long q4), .second, .val (.long q5), .second, .val (.int la), .val (.int lb), .val (.int (0 : Int32)), .val (.int n2), .val (.ref oa), .val (.ref ob), .val (.int r), .val (.long (0 : Int64)), .second, .unset, .unset, .unset, .unset, .unset, .unset, .unset, .unset, .unset] [(.int (1 : Int32)), (.int (0 : Int32))]) _
      refine own_go (fun t_ k_ => XS.icmpYes Xt.here hx rfl (pc0 := 85) (pc' := 93) rfl (hb hby at_85) rfl (flt (by decide : ¬ ((1 : Int32) < (0 : Int32)))).2.2.2 (by decide) (by decide) k_) ?_
      show own_G p.tables e below Tt (mkF m 93 #[.val (.long q0), .second, .val (.long q1), .second, .val (.long q2), .second, .val (.long q3), .second, .val (.long q4), .second, .val (.long q5), .second, .val (.int la), .val (.int lb), .val (.int (0 : Int32)), .val (.int n2), .val (.ref oa), .val (.ref ob), .val (.int r), .val (.long (0 : Int64)), .second, .unset, .unset, .unset, .unset, .unset, .unset, .unset, .unset, .unset] []) _
      refine own_go (fun t_ k_ => XS.lconst Xt.here hx rfl (hb hby at_93) k_) ?_
      show own_G p.tables e below Tt (mkF m 94 #[.val (.long q0), .second, .val (.long q1), .second, .val (.long q2), .second, .val (.long q3), .second, .val (.long q4), .second, .val (.long q5), .second, .val (.int la), .val (.int lb), .val (.int (0 : Int32)), .val (.int n2), .val (.ref oa), .val (.ref ob), .val (.int r), .val (.long (0 : Int64)), .second, .unset, .unset, .unset, .unset, .unset, .unset, .unset, .unset, .unset] [(.long (0 : Int64))]) _
      refine own_go (fun t_ k_ => XS.lstore Xt.here hx rfl (hb hby at_94) rfl (l' := #[.val (.long q0), .second, .val (.long q1), .second, .val (.long q2), .second, .val (.long q3), .second, .val (.long q4), .second, .val (.long q5), .second, .val (.int la), .val (.int lb), .val (.int (0 : Int32)), .val (.int n2), .val (.ref oa), .val (.ref ob), .val (.int r), .val (.long (0 : Int64)), .second, .val (.long (0 : Int64)), .second, .unset, .unset, .unset, .unset, .unset, .unset, .unset]) rfl k_) ?_
      show own_G p.tables e below Tt (mkF m 96 #[.val (.long q0), .second, .val (.long q1), .second, .val (.long q2), .second, .val (.long q3), .second, .val (.long q4), .second, .val (.long q5), .second, .val (.int la), .val (.int lb), .val (.int (0 : Int32)), .val (.int n2), .val (.ref oa), .val (.ref ob), .val (.int r), .val (.long (0 : Int64)), .second, .val (.long (0 : Int64)), .second, .unset, .unset, .unset, .unset, .unset, .unset, .unset] []) _
      exact tail96 _ _ _ _ _ _ _ _ _ _ _ _ _ _ Xt hcc hss et Nt (by rw [hr]; simp only [own_e0_0, own_e0_1, own_e0_2, own_e1_0, own_e1_1, own_e1_2]) hn2
    · skip
      show own_G p.tables e below Tt (mkF m 69 #[.val (.long q0), .second, .val (.long q1), .second, .val (.long q2), .second, .val (.long q3), .second, .val (.long q4), .second, .val (.long q5), .second, .val (.int la), .val (.int lb), .val (.int (1 : Int32)), .val (.int n2), .val (.ref oa), .val (.ref ob), .val (.int r), .unset, .unset, .unset, .unset, .unset, .unset, .unset, .unset, .unset, .unset, .unset] []) _
      refine own_go (fun t_ k_ => XS.iload Xt.here hx rfl (hb hby at_69) rfl k_) ?_
      show own_G p.tables e below Tt (mkF m 71 #[.val (.long q0), .second, .val (.long q1), .second, .val (.long q2), .second, .val (.long q3), .second, .val (.long q4), .second, .val (.long q5), .second, .val (.int la), .val (.int lb), .val (.int (1 : Int32)), .val (.int n2), .val (.ref oa), .val (.ref ob), .val (.int r), .unset, .unset, .unset, .unset, .unset, .unset, .unset, .unset, .unset, .unset, .unset] [(.int (1 : Int32))]) _
      refine own_go (fun t_ k_ => XS.ifNo Xt.here hx rfl (hb hby at_71) rfl ((if0 _ _).trans (tlt (by decide : ((0 : Int32) < (1 : Int32)))).2.2.2) k_) ?_
      show own_G p.tables e below Tt (mkF m 74 #[.val (.long q0), .second, .val (.long q1), .second, .val (.long q2), .second, .val (.long q3), .second, .val (.long q4), .second, .val (.long q5), .second, .val (.int la), .val (.int lb), .val (.int (1 : Int32)), .val (.int n2), .val (.ref oa), .val (.ref ob), .val (.int r), .unset, .unset, .unset, .unset, .unset, .unset, .unset, .unset, .unset, .unset, .unset] []) _
      refine own_go (fun t_ k_ => XS.lload Xt.here hx rfl (hb hby at_74) rfl k_) ?_
      show own_G p.tables e below Tt (mkF m 76 #[.val (.long q0), .second, .val (.long q1), .second, .val (.long q2), .second, .val (.long q3), .second, .val (.long q4), .second, .val (.long q5), .second, .val (.int la), .val (.int lb), .val (.int (1 : Int32)), .val (.int n2), .val (.ref oa), .val (.ref ob), .val (.int r), .unset, .unset, .unset, .unset, .unset, .unset, .unset, .unset, .unset, .unset, .unset] [(.long q2)]) _
      refine own_go (fun t_ k_ => XS.goto Xt.here hx rfl (pc0 := 76) (pc' := 80) rfl (hb hby at_76) (by decide) (by decide) k_) ?_
      show own_G p.tables e below Tt (mkF m 80 #[.val (.long q0), .second, .val (.long q1), .second, .val (.long q2), .second, .val (.long q3), .second, .val (.long q4), .second, .val (.long q5), .second, .val (.int la), .val (.int lb), .val (.int (1 : Int32)), .val (.int n2), .val (.ref oa), .val (.ref ob), .val (.int r), .unset, .unset, .unset, .unset, .unset, .unset, .unset, .unset, .unset, .unset, .unset] [(.long q2)]) _
      refine own_go (fun t_ k_ => XS.lstore Xt.here hx rfl (hb hby at_80) rfl (l' := #[.val (.long q0), .second, .val (.long q1), .second, .val (.long q2), .second, .val (.long q3), .second, .val (.long q4), .second, .val (.long q5), .second, .val (.int la), .val (.int lb), .val (.int (1 : Int32)), .val (.int n2), .val (.ref oa), .val (.ref ob), .val (.int r), .val (.long q2), .second, .unset, .unset, .unset, .unset, .unset, .unset, .unset, .unset, .unset]) rfl k_) ?_
      show own_G p.tables e below Tt (mkF m 82 #[.val (.long q0), .second, .val (.long q1), .second, .val (.long q2), .second, .val (.long q3), .second, .val (.long q4), .second, .val (.long q5), .second, .val (.int la), .val (.int lb), .val (.int (1 : Int32)), .val (.int n2), .val (.ref oa), .val (.ref ob), .val (.int r), .val (.long q2), .second, .unset, .unset, .unset, .unset, .unset, .unset, .unset, .unset, .unset] []) _
      refine own_go (fun t_ k_ => XS.iload Xt.here hx rfl (hb hby at_82) rfl k_) ?_
      show own_G p.tables e below Tt (mkF m 84 #[.val (.long q0), .second, .val (.long q1), .second, .val (.long q2), .second, .val (.long q3), .second, .val (.long q4), .second, .val (.long q5), .second, .val (.int la), .val (.int lb), .val (.int (1 : Int32)), .val (.int n2), .val (.ref oa), .val (.ref ob), .val (.int r), .val (.long q2), .second, .unset, .unset, .unset, .unset, .unset, .unset, .unset, .unset, .unset] [(.int (1 : Int32))]) _
      refine own_go (fun t_ k_ => XS.iconst Xt.here hx rfl (hb hby at_84) k_) ?_
      show own_G p.tables e below Tt (mkF m 85 #[.val (.long q0), .second, .val (.long q1), .second, .val (.long q2), .second, .val (.long q3), .second, .val (.long q4), .second, .val (.long q5), .second, .val (.int la), .val (.int lb), .val (.int (1 : Int32)), .val (.int n2), .val (.ref oa), .val (.ref ob), .val (.int r), .val (.long q2), .second, .unset, .unset, .unset, .unset, .unset, .unset, .unset, .unset, .unset] [(.int (1 : Int32)), (.int (1 : Int32))]) _
      refine own_go (fun t_ k_ => XS.icmpYes Xt.here hx rfl (pc0 := 85) (pc' := 93) rfl (hb hby at_85) rfl (flt (by decide : ¬ ((1 : Int32) < (1 : Int32)))).2.2.2 (by decide) (by decide) k_) ?_
      show own_G p.tables e below Tt (mkF m 93 #[.val (.long q0), .second, .val (.long q1), .second, .val (.long q2), .second, .val (.long q3), .second, .val (.long q4), .second, .val (.long q5), .second, .val (.int la), .val (.int lb), .val (.int (1 : Int32)), .val (.int n2), .val (.ref oa), .val (.ref ob), .val (.int r), .val (.long q2), .second, .unset, .unset, .unset, .unset, .unset, .unset, .unset, .unset, .unset] []) _
      refine own_go (fun t_ k_ => XS.lconst Xt.here hx rfl (hb hby at_93) k_) ?_
      show own_G p.tables e below Tt (mkF m 94 #[.val (.long q0), .second, .val (.long q1), .second, .val (.long q2), .second, .val (.long q3), .second, .val (.long q4), .second, .val (.long q5), .second, .val (.int la), .val (.int lb), .val (.int (1 : Int32)), .val (.int n2), .val (.ref oa), .val (.ref ob), .val (.int r), .val (.long q2), .second, .unset, .unset, .unset, .unset, .unset, .unset, .unset, .unset, .unset] [(.long (0 : Int64))]) _
      refine own_go (fun t_ k_ => XS.lstore Xt.here hx rfl (hb hby at_94) rfl (l' := #[.val (.long q0), .second, .val (.long q1), .second, .val (.long q2), .second, .val (.long q3), .second, .val (.long q4), .second, .val (.long q5), .second, .val (.int la), .val (.int lb), .val (.int (1 : Int32)), .val (.int n2), .val (.ref oa), .val (.ref ob), .val (.int r), .val (.long q2), .second, .val (.long (0 : Int64)), .second, .unset, .unset, .unset, .unset, .unset, .unset, .unset]) rfl k_) ?_
      show own_G p.tables e below Tt (mkF m 96 #[.val (.long q0), .second, .val (.long q1), .second, .val (.long q2), .second, .val (.long q3), .second, .val (.long q4), .second, .val (.long q5), .second, .val (.int la), .val (.int lb), .val (.int (1 : Int32)), .val (.int n2), .val (.ref oa), .val (.ref ob), .val (.int r), .val (.long q2), .second, .val (.long (0 : Int64)), .second, .unset, .unset, .unset, .unset, .unset, .unset, .unset] []) _
      exact tail96 _ _ _ _ _ _ _ _ _ _ _ _ _ _ Xt hcc hss et Nt (by rw [hr]; simp only [own_e0_0, own_e0_1, own_e0_2, own_e1_0, own_e1_1, own_e1_2]) hn2
    · skip
      show own_G p.tables e below Tt (mkF m 69 #[.val (.long q0), .second, .val (.long q1), .second, .val (.long q2), .second, .val (.long q3), .second, .val (.long q4), .second, .val (.long q5), .second, .val (.int la), .val (.int lb), .val (.int (2 : Int32)), .val (.int n2), .val (.ref oa), .val (.ref ob), .val (.int r), .unset, .unset, .unset, .unset, .unset, .unset, .unset, .unset, .unset, .unset, .unset] []) _
      refine own_go (fun t_ k_ => XS.iload Xt.here hx rfl (hb hby at_69) rfl k_) ?_
      show own_G p.tables e below Tt (mkF m 71 #[.val (.long q0), .second, .val (.long q1), .second, .val (.long q2), .second, .val (.long q3), .second, .val (.long q4), .second, .val (.long q5), .second, .val (.int la), .val (.int lb), .val (.int (2 : Int32)), .val (.int n2), .val (.ref oa), .val (.ref ob), .val (.int r), .unset, .unset, .unset, .unset, .unset, .unset, .unset, .unset, .unset, .unset, .unset] [(.int (2 : Int32))]) _
      refine own_go (fun t_ k_ => XS.ifNo Xt.here hx rfl (hb hby at_71) rfl ((if0 _ _).trans (tlt (by decide : ((0 : Int32) < (2 : Int32)))).2.2.2) k_) ?_
      show own_G p.tables e below Tt (mkF m 74 #[.val (.long q0), .second, .val (.long q1), .second, .val (.long q2), .second, .val (.long q3), .second, .val (.long q4), .second, .val (.long q5), .second, .val (.int la), .val (.int lb), .val (.int (2 : Int32)), .val (.int n2), .val (.ref oa), .val (.ref ob), .val (.int r), .unset, .unset, .unset, .unset, .unset, .unset, .unset, .unset, .unset, .unset, .unset] []) _
      refine own_go (fun t_ k_ => XS.lload Xt.here hx rfl (hb hby at_74) rfl k_) ?_
      show own_G p.tables e below Tt (mkF m 76 #[.val (.long q0), .second, .val (.long q1), .second, .val (.long q2), .second, .val (.long q3), .second, .val (.long q4), .second, .val (.long q5), .second, .val (.int la), .val (.int lb), .val (.int (2 : Int32)), .val (.int n2), .val (.ref oa), .val (.ref ob), .val (.int r), .unset, .unset, .unset, .unset, .unset, .unset, .unset, .unset, .unset, .unset, .unset] [(.long q2)]) _
      refine own_go (fun t_ k_ => XS.goto Xt.here hx rfl (pc0 := 76) (pc' := 80) rfl (hb hby at_76) (by decide) (by decide) k_) ?_
      show own_G p.tables e below Tt (mkF m 80 #[.val (.long q0), .second, .val (.long q1), .second, .val (.long q2), .second, .val (.long q3), .second, .val (.long q4), .second, .val (.long q5), .second, .val (.int la), .val (.int lb), .val (.int (2 : Int32)), .val (.int n2), .val (.ref oa), .val (.ref ob), .val (.int r), .unset, .unset, .unset, .unset, .unset, .unset, .unset, .unset, .unset, .unset, .unset] [(.long q2)]) _
      refine own_go (fun t_ k_ => XS.lstore Xt.here hx rfl (hb hby at_80) rfl (l' := #[.val (.long q0), .second, .val (.long q1), .second, .val (.long q2), .second, .val (.long q3), .second, .val (.long q4), .second, .val (.long q5), .second, .val (.int la), .val (.int lb), .val (.int (2 : Int32)), .val (.int n2), .val (.ref oa), .val (.ref ob), .val (.int r), .val (.long q2), .second, .unset, .unset, .unset, .unset, .unset, .unset, .unset, .unset, .unset]) rfl k_) ?_
      show own_G p.tables e below Tt (mkF m 82 #[.val (.long q0), .second, .val (.long q1), .second, .val (.long q2), .second, .val (.long q3), .second, .val (.long q4), .second, .val (.long q5), .second, .val (.int la), .val (.int lb), .val (.int (2 : Int32)), .val (.int n2), .val (.ref oa), .val (.ref ob), .val (.int r), .val (.long q2), .second, .unset, .unset, .unset, .unset, .unset, .unset, .unset, .unset, .unset] []) _
      refine own_go (fun t_ k_ => XS.iload Xt.here hx rfl (hb hby at_82) rfl k_) ?_
      show own_G p.tables e below Tt (mkF m 84 #[.val (.long q0), .second, .val (.long q1), .second, .val (.long q2), .second, .val (.long q3), .second, .val (.long q4), .second, .val (.long q5), .second, .val (.int la), .val (.int lb), .val (.int (2 : Int32)), .val (.int n2), .val (.ref oa), .val (.ref ob), .val (.int r), .val (.long q2), .second, .unset, .unset, .unset, .unset, .unset, .unset, .unset, .unset, .unset] [(.int (2 : Int32))]) _
      refine own_go (fun t_ k_ => XS.iconst Xt.here hx rfl (hb hby at_84) k_) ?_
      show own_G p.tables e below Tt (mkF m 85 #[.val (.long q0), .second, .val (.long q1), .second, .val (.long q2), .second, .val (.long q3), .second, .val (.long q4), .second, .val (.long q5), .second, .val (.int la), .val (.int lb), .val (.int (2 : Int32)), .val (.int n2), .val (.ref oa), .val (.ref ob), .val (.int r), .val (.long q2), .second, .unset, .unset, .unset, .unset, .unset, .unset, .unset, .unset, .unset] [(.int (1 : Int32)), (.int (2 : Int32))]) _
      refine own_go (fun t_ k_ => XS.icmpNo Xt.here hx rfl (hb hby at_85) rfl (tlt (by decide : ((1 : Int32) < (2 : Int32)))).2.2.2 k_) ?_
      show own_G p.tables e below Tt (mkF m 88 #[.val (.long q0), .second, .val (.long q1), .second, .val (.long q2), .second, .val (.long q3), .second, .val (.long q4), .second, .val (.long q5), .second, .val (.int la), .val (.int lb), .val (.int (2 : Int32)), .val (.int n2), .val (.ref oa), .val (.ref ob), .val (.int r), .val (.long q2), .second, .unset, .unset, .unset, .unset, .unset, .unset, .unset, .unset, .unset] []) _
      refine own_go (fun t_ k_ => XS.lload Xt.here hx rfl (hb hby at_88) rfl k_) ?_
      show own_G p.tables e below Tt (mkF m 90 #[.val (.long q0), .second, .val (.long q1), .second, .val (.long q2), .second, .val (.long q3), .second, .val (.long q4), .second, .val (.long q5), .second, .val (.int la), .val (.int lb), .val (.int (2 : Int32)), .val (.int n2), .val (.ref oa), .val (.ref ob), .val (.int r), .val (.long q2), .second, .unset, .unset, .unset, .unset, .unset, .unset, .unset, .unset, .unset] [(.long q3)]) _
      refine own_go (fun t_ k_ => XS.goto Xt.here hx rfl (pc0 := 90) (pc' := 94) rfl (hb hby at_90) (by decide) (by decide) k_) ?_
      show own_G p.tables e below Tt (mkF m 94 #[.val (.long q0), .second, .val (.long q1), .second, .val (.long q2), .second, .val (.long q3), .second, .val (.long q4), .second, .val (.long q5), .second, .val (.int la), .val (.int lb), .val (.int (2 : Int32)), .val (.int n2), .val (.ref oa), .val (.ref ob), .val (.int r), .val (.long q2), .second, .unset, .unset, .unset, .unset, .unset, .unset, .unset, .unset, .unset] [(.long q3)]) _
      refine own_go (fun t_ k_ => XS.lstore Xt.here hx rfl (hb hby at_94) rfl (l' := #[.val (.long q0), .second, .val (.long q1), .second, .val (.long q2), .second, .val (.long q3), .second, .val (.long q4), .second, .val (.long q5), .second, .val (.int la), .val (.int lb), .val (.int (2 : Int32)), .val (.int n2), .val (.ref oa), .val (.ref ob), .val (.int r), .val (.long q2), .second, .val (.long q3), .second, .unset, .unset, .unset, .unset, .unset, .unset, .unset]) rfl k_) ?_
      show own_G p.tables e below Tt (mkF m 96 #[.val (.long q0), .second, .val (.long q1), .second, .val (.long q2), .second, .val (.long q3), .second, .val (.long q4), .second, .val (.long q5), .second, .val (.int la), .val (.int lb), .val (.int (2 : Int32)), .val (.int n2), .val (.ref oa), .val (.ref ob), .val (.int r), .val (.long q2), .second, .val (.long q3), .second, .unset, .unset, .unset, .unset, .unset, .unset, .unset] []) _
      exact tail96 _ _ _ _ _ _ _ _ _ _ _ _ _ _ Xt hcc hss et Nt (by rw [hr]; simp only [own_e0_0, own_e0_1, own_e0_2, own_e1_0, own_e1_1, own_e1_2]) hn2
  show own_G p.tables e below s₁ (mkF m 0 #[.val (.long q0), .second, .val (.long q1), .second, .val (.long q2), .second, .val (.long q3), .second, .val (.long q4), .second, .val (.long q5), .second, .unset, .unset, .unset, .unset, .unset, .unset, .unset, .unset, .unset, .unset, .unset, .unset, .unset, .unset, .unset, .unset, .unset, .unset] []) _
  refine own_go (fun t_ k_ => XS.lloadN X0.here hx rfl (hb hby at_0) rfl k_) ?_
  show own_G p.tables e below s₁ (mkF m 1 #[.val (.long q0), .second, .val (.long q1), .second, .val (.long q2), .second, .val (.long q3), .second, .val (.long q4), .second, .val (.long q5), .second, .unset, .unset, .unset, .unset, .unset, .unset, .unset, .unset, .unset, .unset, .unset, .unset, .unset, .unset, .unset, .unset, .unset, .unset] [(.long q0)]) _
  refine own_go (fun t_ k_ => XS.l2i X0.here hx rfl (hb hby at_1) rfl k_) ?_
  show own_G p.tables e below s₁ (mkF m 2 #[.val (.long q0), .second, .val (.long q1), .second, .val (.long q2), .second, .val (.long q3), .second, .val (.long q4), .second, .val (.long q5), .second, .unset, .unset, .unset, .unset, .unset, .unset, .unset, .unset, .unset, .unset, .unset, .unset, .unset, .unset, .unset, .unset, .unset, .unset] [(.int (q0.toInt32))]) _
  refine own_go (fun t_ k_ => XS.istore X0.here hx rfl (hb hby at_2) rfl (l' := #[.val (.long q0), .second, .val (.long q1), .second, .val (.long q2), .second, .val (.long q3), .second, .val (.long q4), .second, .val (.long q5), .second, .val (.int (q0.toInt32)), .unset, .unset, .unset, .unset, .unset, .unset, .unset, .unset, .unset, .unset, .unset, .unset, .unset, .unset, .unset, .unset, .unset]) rfl k_) ?_
  show own_G p.tables e below s₁ (mkF m 4 #[.val (.long q0), .second, .val (.long q1), .second, .val (.long q2), .second, .val (.long q3), .second, .val (.long q4), .second, .val (.long q5), .second, .val (.int (q0.toInt32)), .unset, .unset, .unset, .unset, .unset, .unset, .unset, .unset, .unset, .unset, .unset, .unset, .unset, .unset, .unset, .unset, .unset] []) _
  refine own_go (fun t_ k_ => XS.lloadN X0.here hx rfl (hb hby at_4) rfl k_) ?_
  show own_G p.tables e below s₁ (mkF m 5 #[.val (.long q0), .second, .val (.long q1), .second, .val (.long q2), .second, .val (.long q3), .second, .val (.long q4), .second, .val (.long q5), .second, .val (.int (q0.toInt32)), .unset, .unset, .unset, .unset, .unset, .unset, .unset, .unset, .unset, .unset, .unset, .unset, .unset, .unset, .unset, .unset, .unset] [(.long q1)]) _
  refine own_go (fun t_ k_ => XS.l2i X0.here hx rfl (hb hby at_5) rfl k_) ?_
  show own_G p.tables e below s₁ (mkF m 6 #[.val (.long q0), .second, .val (.long q1), .second, .val (.long q2), .second, .val (.long q3), .second, .val (.long q4), .second, .val (.long q5), .second, .val (.int (q0.toInt32)), .unset, .unset, .unset, .unset, .unset, .unset, .unset, .unset, .unset, .unset, .unset, .unset, .unset, .unset, .unset, .unset, .unset] [(.int (q1.toInt32))]) _
  refine own_go (fun t_ k_ => XS.istore X0.here hx rfl (hb hby at_6) rfl (l' := #[.val (.long q0), .second, .val (.long q1), .second, .val (.long q2), .second, .val (.long q3), .second, .val (.long q4), .second, .val (.long q5), .second, .val (.int (q0.toInt32)), .val (.int (q1.toInt32)), .unset, .unset, .unset, .unset, .unset, .unset, .unset, .unset, .unset, .unset, .unset, .unset, .unset, .unset, .unset, .unset]) rfl k_) ?_
  show own_G p.tables e below s₁ (mkF m 8 #[.val (.long q0), .second, .val (.long q1), .second, .val (.long q2), .second, .val (.long q3), .second, .val (.long q4), .second, .val (.long q5), .second, .val (.int (q0.toInt32)), .val (.int (q1.toInt32)), .unset, .unset, .unset, .unset, .unset, .unset, .unset, .unset, .unset, .unset, .unset, .unset, .unset, .unset, .unset, .unset] []) _
  refine own_go (fun t_ k_ => XS.lloadN X0.here hx rfl (hb hby at_8) rfl k_) ?_
  show own_G p.tables e below s₁ (mkF m 9 #[.val (.long q0), .second, .val (.long q1), .second, .val (.long q2), .second, .val (.long q3), .second, .val (.long q4), .second, .val (.long q5), .second, .val (.int (q0.toInt32)), .val (.int (q1.toInt32)), .unset, .unset, .unset, .unset, .unset, .unset, .unset, .unset, .unset, .unset, .unset, .unset, .unset, .unset, .unset, .unset] [(.long q0)]) _
  obtain ⟨_, _, ⟨T6, L6, k6, n6⟩, -, X6, ⟨Lc6, hQ6, l6, y6, z6⟩, st6⟩ := Jvm.LawKit.callS X0 hx (y := (⟨"com/example/klearance/klearance/SecurityLabelDominatesPinLaw", "lenOf", "(J)I"⟩ : MethodName)) hown (mvT hZ (hw _ (List.mem_of_getElem? (i := 0) rfl))) (mvT hZ (hw _ (List.mem_of_getElem? (i := 1) rfl))) (mvT hZ (hw _ (List.mem_of_getElem? (i := 2) rfl))) (mvT hZ (hw _ (List.mem_of_getElem? (i := 3) rfl))) (by decide) (backOf (W := 0) (rm1 l Z a0 hw [] q0 h0 n0 Z0) hZ (hw _ (List.mem_of_getElem? (i := 3) rfl)) (hw _ (List.mem_of_getElem? (i := 2) rfl)) (by decide) (by decide)) (g := (mkF m 9 #[.val (.long q0), .second, .val (.long q1), .second, .val (.long q2), .second, .val (.long q3), .second, .val (.long q4), .second, .val (.long q5), .second, .val (.int (q0.toInt32)), .val (.int (q1.toInt32)), .unset, .unset, .unset, .unset, .unset, .unset, .unset, .unset, .unset, .unset, .unset, .unset, .unset, .unset, .unset, .unset] [(.long q0)])) rfl (by rw [hml]; rfl) (argsL := [(.long q0)]) (rest := []) (lenOf own_pd0 rfl) rfl (by show 2 * 0 + _ ≤ _; exact Nat.le_of_eq rfl) (hb hby at_9) (fun _ _ => ⟨rfl, e0, (by decide : 0 + 0 ≤ _), (by decide : 0 + 0 ≤ _)⟩)
  dsimp only [Pt.U, Pt.locs, Pt.cells, Pt.slots] at X6 l6 y6 z6 st6 hQ6
  subst l6 y6 z6
  obtain ⟨rfl, N6q, e6⟩ := hQ6
  have N6 := Fr.app N0 N6q
  refine own_go st6 ?_
  show own_G p.tables e below T6 (mkF m 12 #[.val (.long q0), .second, .val (.long q1), .second, .val (.long q2), .second, .val (.long q3), .second, .val (.long q4), .second, .val (.long q5), .second, .val (.int (q0.toInt32)), .val (.int (q1.toInt32)), .unset, .unset, .unset, .unset, .unset, .unset, .unset, .unset, .unset, .unset, .unset, .unset, .unset, .unset, .unset, .unset] [(.int (own_lenOf q0))]) _
  refine own_go (fun t_ k_ => XS.istore X6.here hx rfl (hb hby at_12) rfl (l' := #[.val (.long q0), .second, .val (.long q1), .second, .val (.long q2), .second, .val (.long q3), .second, .val (.long q4), .second, .val (.long q5), .second, .val (.int (q0.toInt32)), .val (.int (q1.toInt32)), .val (.int (own_lenOf q0)), .unset, .unset, .unset, .unset, .unset, .unset, .unset, .unset, .unset, .unset, .unset, .unset, .unset, .unset, .unset]) rfl k_) ?_
  show own_G p.tables e below T6 (mkF m 14 #[.val (.long q0), .second, .val (.long q1), .second, .val (.long q2), .second, .val (.long q3), .second, .val (.long q4), .second, .val (.long q5), .second, .val (.int (q0.toInt32)), .val (.int (q1.toInt32)), .val (.int (own_lenOf q0)), .unset, .unset, .unset, .unset, .unset, .unset, .unset, .unset, .unset, .unset, .unset, .unset, .unset, .unset, .unset] []) _
  refine own_go (fun t_ k_ => XS.lloadN X6.here hx rfl (hb hby at_14) rfl k_) ?_
  show own_G p.tables e below T6 (mkF m 15 #[.val (.long q0), .second, .val (.long q1), .second, .val (.long q2), .second, .val (.long q3), .second, .val (.long q4), .second, .val (.long q5), .second, .val (.int (q0.toInt32)), .val (.int (q1.toInt32)), .val (.int (own_lenOf q0)), .unset, .unset, .unset, .unset, .unset, .unset, .unset, .unset, .unset, .unset, .unset, .unset, .unset, .unset, .unset] [(.long q1)]) _
  obtain ⟨_, _, ⟨T7, L7, k7, n7⟩, -, X7, ⟨Lc7, hQ7, l7, y7, z7⟩, st7⟩ := Jvm.LawKit.callS X6 hx (y := (⟨"com/example/klearance/klearance/SecurityLabelDominatesPinLaw", "lenOf", "(J)I"⟩ : MethodName)) hown (mvT hZ (hw _ (List.mem_of_getElem? (i := 0) rfl))) (mvT hZ (hw _ (List.mem_of_getElem? (i := 1) rfl))) (mvT hZ (hw _ (List.mem_of_getElem? (i := 2) rfl))) (mvT hZ (hw _ (List.mem_of_getElem? (i := 3) rfl))) (by decide) (backOf (W := 0) (rm1 l Z a0 hw [] q1 h0 n0 Z0) hZ (hw _ (List.mem_of_getElem? (i := 3) rfl)) (hw _ (List.mem_of_getElem? (i := 2) rfl)) (by decide) (by decide)) (g := (mkF m 15 #[.val (.long q0), .second, .val (.long q1), .second, .val (.long q2), .second, .val (.long q3), .second, .val (.long q4), .second, .val (.long q5), .second, .val (.int (q0.toInt32)), .val (.int (q1.toInt32)), .val (.int (own_lenOf q0)), .unset, .unset, .unset, .unset, .unset, .unset, .unset, .unset, .unset, .unset, .unset, .unset, .unset, .unset, .unset] [(.long q1)])) rfl (by rw [hml]; rfl) (argsL := [(.long q1)]) (rest := []) (lenOf own_pd0 rfl) rfl (by show 2 * 0 + _ ≤ _; exact Nat.le_of_eq rfl) (hb hby at_15) (fun _ _ => ⟨rfl, e6, (by decide : 0 + 0 ≤ _), (by decide : 0 + 0 ≤ _)⟩)
  dsimp only [Pt.U, Pt.locs, Pt.cells, Pt.slots] at X7 l7 y7 z7 st7 hQ7
  subst l7 y7 z7
  obtain ⟨rfl, N7q, e7⟩ := hQ7
  have N7 := Fr.app N6 N7q
  refine own_go st7 ?_
  show own_G p.tables e below T7 (mkF m 18 #[.val (.long q0), .second, .val (.long q1), .second, .val (.long q2), .second, .val (.long q3), .second, .val (.long q4), .second, .val (.long q5), .second, .val (.int (q0.toInt32)), .val (.int (q1.toInt32)), .val (.int (own_lenOf q0)), .unset, .unset, .unset, .unset, .unset, .unset, .unset, .unset, .unset, .unset, .unset, .unset, .unset, .unset, .unset] [(.int (own_lenOf q1))]) _
  refine own_go (fun t_ k_ => XS.istore X7.here hx rfl (hb hby at_18) rfl (l' := #[.val (.long q0), .second, .val (.long q1), .second, .val (.long q2), .second, .val (.long q3), .second, .val (.long q4), .second, .val (.long q5), .second, .val (.int (q0.toInt32)), .val (.int (q1.toInt32)), .val (.int (own_lenOf q0)), .val (.int (own_lenOf q1)), .unset, .unset, .unset, .unset, .unset, .unset, .unset, .unset, .unset, .unset, .unset, .unset, .unset, .unset]) rfl k_) ?_
  show own_G p.tables e below T7 (mkF m 20 #[.val (.long q0), .second, .val (.long q1), .second, .val (.long q2), .second, .val (.long q3), .second, .val (.long q4), .second, .val (.long q5), .second, .val (.int (q0.toInt32)), .val (.int (q1.toInt32)), .val (.int (own_lenOf q0)), .val (.int (own_lenOf q1)), .unset, .unset, .unset, .unset, .unset, .unset, .unset, .unset, .unset, .unset, .unset, .unset, .unset, .unset] []) _
  obtain ⟨T8, h8, X8, e8, E8, A8, D8, -, st8⟩ := newO X7 hx hZ hown (hw _ (List.mem_of_getElem? (i := 5) rfl)) (hw _ (List.mem_of_getElem? (i := 6) rfl)) (hw _ (List.mem_of_getElem? (i := 7) rfl)) e7 (g := (mkF m 20 #[.val (.long q0), .second, .val (.long q1), .second, .val (.long q2), .second, .val (.long q3), .second, .val (.long q4), .second, .val (.long q5), .second, .val (.int (q0.toInt32)), .val (.int (q1.toInt32)), .val (.int (own_lenOf q0)), .val (.int (own_lenOf q1)), .unset, .unset, .unset, .unset, .unset, .unset, .unset, .unset, .unset, .unset, .unset, .unset, .unset, .unset] [])) rfl (hb hby at_20) (by decide) (by decide)
  obtain ⟨b8, g8⟩ : ∃ z, z = h0.size := ⟨_, rfl⟩
  rw [← g8] at A8 D8 st8
  have ge_b8 : n0 ≤ b8 := Nat.le_trans Z0 (Nat.le_of_eq g8.symm)
  have f9 : Fld Z h8 b8 "com/example/klearance/klearance/SecurityLabel" "level" "I" (.int (0 : Int32)) := D8 (Or.inr (hw _ (List.mem_of_getElem? (i := 19) rfl))) (ty := .int) (by decide)
  have f10 : Fld Z h8 b8 "com/example/klearance/klearance/SecurityLabel" "categories" "[J" .null := D8 (Or.inr (hw _ (List.mem_of_getElem? (i := 30) rfl))) (ty := (.array .long)) (by decide)
  refine own_go st8 ?_
  show own_G p.tables e below T8 (mkF m 23 #[.val (.long q0), .second, .val (.long q1), .second, .val (.long q2), .second, .val (.long q3), .second, .val (.long q4), .second, .val (.long q5), .second, .val (.int (q0.toInt32)), .val (.int (q1.toInt32)), .val (.int (own_lenOf q0)), .val (.int (own_lenOf q1)), .unset, .unset, .unset, .unset, .unset, .unset, .unset, .unset, .unset, .unset, .unset, .unset, .unset, .unset] [(.ref b8)]) _
  refine own_go (fun t_ k_ => XS.dup X8.here hx rfl (hb hby at_23) rfl rfl k_) ?_
  show own_G p.tables e below T8 (mkF m 24 #[.val (.long q0), .second, .val (.long q1), .second, .val (.long q2), .second, .val (.long q3), .second, .val (.long q4), .second, .val (.long q5), .second, .val (.int (q0.toInt32)), .val (.int (q1.toInt32)), .val (.int (own_lenOf q0)), .val (.int (own_lenOf q1)), .unset, .unset, .unset, .unset, .unset, .unset, .unset, .unset, .unset, .unset, .unset, .unset, .unset, .unset] [(.ref b8), (.ref b8)]) _
  refine own_go (fun t_ k_ => XS.iload X8.here hx rfl (hb hby at_24) rfl k_) ?_
  show own_G p.tables e below T8 (mkF m 26 #[.val (.long q0), .second, .val (.long q1), .second, .val (.long q2), .second, .val (.long q3), .second, .val (.long q4), .second, .val (.long q5), .second, .val (.int (q0.toInt32)), .val (.int (q1.toInt32)), .val (.int (own_lenOf q0)), .val (.int (own_lenOf q1)), .unset, .unset, .unset, .unset, .unset, .unset, .unset, .unset, .unset, .unset, .unset, .unset, .unset, .unset] [(.int (q0.toInt32)), (.ref b8), (.ref b8)]) _
  refine own_go (fun t_ k_ => XS.iload X8.here hx rfl (hb hby at_26) rfl k_) ?_
  show own_G p.tables e below T8 (mkF m 28 #[.val (.long q0), .second, .val (.long q1), .second, .val (.long q2), .second, .val (.long q3), .second, .val (.long q4), .second, .val (.long q5), .second, .val (.int (q0.toInt32)), .val (.int (q1.toInt32)), .val (.int (own_lenOf q0)), .val (.int (own_lenOf q1)), .unset, .unset, .unset, .unset, .unset, .unset, .unset, .unset, .unset, .unset, .unset, .unset, .unset, .unset] [(.int (own_lenOf q0)), (.int (q0.toInt32)), (.ref b8), (.ref b8)]) _
  refine own_go (fun t_ k_ => XS.lload X8.here hx rfl (hb hby at_28) rfl k_) ?_
  show own_G p.tables e below T8 (mkF m 30 #[.val (.long q0), .second, .val (.long q1), .second, .val (.long q2), .second, .val (.long q3), .second, .val (.long q4), .second, .val (.long q5), .second, .val (.int (q0.toInt32)), .val (.int (q1.toInt32)), .val (.int (own_lenOf q0)), .val (.int (own_lenOf q1)), .unset, .unset, .unset, .unset, .unset, .unset, .unset, .unset, .unset, .unset, .unset, .unset, .unset, .unset] [(.long q2), (.int (own_lenOf q0)), (.int (q0.toInt32)), (.ref b8), (.ref b8)]) _
  refine own_go (fun t_ k_ => XS.lload X8.here hx rfl (hb hby at_30) rfl k_) ?_
  show own_G p.tables e below T8 (mkF m 32 #[.val (.long q0), .second, .val (.long q1), .second, .val (.long q2), .second, .val (.long q3), .second, .val (.long q4), .second, .val (.long q5), .second, .val (.int (q0.toInt32)), .val (.int (q1.toInt32)), .val (.int (own_lenOf q0)), .val (.int (own_lenOf q1)), .unset, .unset, .unset, .unset, .unset, .unset, .unset, .unset, .unset, .unset, .unset, .unset, .unset, .unset] [(.long q3), (.long q2), (.int (own_lenOf q0)), (.int (q0.toInt32)), (.ref b8), (.ref b8)]) _
  have f11 : n0 ≤ h8.size := (Nat.le_trans Z0 E8.1)
  obtain ⟨_, _, ⟨T12, L12, k12, n12⟩, -, X12, ⟨Lc12, hQ12, l12, y12, z12⟩, st12⟩ := Jvm.LawKit.callS X8 hx (y := (⟨"com/example/klearance/klearance/SecurityLabelDominatesPinLaw", "cats", "(IJJ)[J"⟩ : MethodName)) hown (mvT hZ (hw _ (List.mem_of_getElem? (i := 8) rfl))) (mvT hZ (hw _ (List.mem_of_getElem? (i := 9) rfl))) (mvT hZ (hw _ (List.mem_of_getElem? (i := 2) rfl))) (mvT hZ (hw _ (List.mem_of_getElem? (i := 10) rfl))) (by decide) (backOf (W := 3) (rm2 l Z a0 hw [] (own_lenOf q0) q2 q3 h8 n0 f11 (own_lens _)) hZ (hw _ (List.mem_of_getElem? (i := 10) rfl)) (hw _ (List.mem_of_getElem? (i := 2) rfl)) (by decide) (by decide)) (g := (mkF m 32 #[.val (.long q0), .second, .val (.long q1), .second, .val (.long q2), .second, .val (.long q3), .second, .val (.long q4), .second, .val (.long q5), .second, .val (.int (q0.toInt32)), .val (.int (q1.toInt32)), .val (.int (own_lenOf q0)), .val (.int (own_lenOf q1)), .unset, .unset, .unset, .unset, .unset, .unset, .unset, .unset, .unset, .unset, .unset, .unset, .unset, .unset] [(.long q3), (.long q2), (.int (own_lenOf q0)), (.int (q0.toInt32)), (.ref b8), (.ref b8)])) rfl (by rw [hml]; rfl) (argsL := [(.int (own_lenOf q0)), (.long q2), (.long q3)]) (rest := [(.int (q0.toInt32)), (.ref b8), (.ref b8)]) (lenOf own_pd1 rfl) rfl (by show 2 * 0 + _ ≤ _; exact Nat.le_of_eq rfl) (hb hby at_32) (fun _ _ => ⟨rfl, e8, (by decide : 1 + 1 ≤ _), (by decide : 2 + 2 ≤ _)⟩)
  dsimp only [Pt.U, Pt.locs, Pt.cells, Pt.slots] at X12 l12 y12 z12 st12 hQ12
  subst l12 y12 z12
  obtain ⟨t12, k12, rfl, N12q, K12, gt12, sz12, Et12, Vt12⟩ := hQ12
  have N12 := Fr.app N7 N12q
  refine own_go st12 ?_
  show own_G p.tables e below T12 (mkF m 35 #[.val (.long q0), .second, .val (.long q1), .second, .val (.long q2), .second, .val (.long q3), .second, .val (.long q4), .second, .val (.long q5), .second, .val (.int (q0.toInt32)), .val (.int (q1.toInt32)), .val (.int (own_lenOf q0)), .val (.int (own_lenOf q1)), .unset, .unset, .unset, .unset, .unset, .unset, .unset, .unset, .unset, .unset, .unset, .unset, .unset, .unset] [(.ref t12), (.int (q0.toInt32)), (.ref b8), (.ref b8)]) _
  have ne_12 : t12 ≠ b8 := Nat.ne_of_gt (Nat.lt_of_lt_of_le A8.lt sz12)
  have f13 : n0 ≤ T12.heap.size := (Nat.le_trans f11 K12.1)
  have f14 : Exa Z T12.heap b8 "com/example/klearance/klearance/SecurityLabel" := (A8.keep K12)
  have f15 : Fld Z T12.heap b8 "com/example/klearance/klearance/SecurityLabel" "level" "I" (.int (0 : Int32)) := (f9.keep K12 List.not_mem_nil)
  have f16 : Fld Z T12.heap b8 "com/example/klearance/klearance/SecurityLabel" "categories" "[J" .null := (f10.keep K12 List.not_mem_nil)
  obtain ⟨_, _, ⟨T17, L17, k17, n17⟩, -, X17, ⟨Lc17, hQ17, l17, y17, z17⟩, st17⟩ := X12.specialBack hx (y := (⟨"com/example/klearance/klearance/SecurityLabel", "<init>", "(I[J)V"⟩ : MethodName)) rfl hown (mvT hZ (hw _ (List.mem_of_getElem? (i := 12) rfl))) (mvT hZ (hw _ (List.mem_of_getElem? (i := 13) rfl))) (mvT hZ (hw _ (List.mem_of_getElem? (i := 14) rfl))) (by decide) (backOf (W := 1) (rm3 l Z a0 hw [] b8 (q0.toInt32) t12 k12 (own_lenOf q0) (own_cats (own_lenOf q0) q2 q3) T12.heap n0 f13 ge_b8 f14 f15 f16 Et12 Vt12 ne_12 (own_cap (own_lens _))) hZ (hw _ (List.mem_of_getElem? (i := 14) rfl)) (hw _ (List.mem_of_getElem? (i := 7) rfl)) (by decide) (by decide)) (g := (mkF m 35 #[.val (.long q0), .second, .val (.long q1), .second, .val (.long q2), .second, .val (.long q3), .second, .val (.long q4), .second, .val (.long q5), .second, .val (.int (q0.toInt32)), .val (.int (q1.toInt32)), .val (.int (own_lenOf q0)), .val (.int (own_lenOf q1)), .unset, .unset, .unset, .unset, .unset, .unset, .unset, .unset, .unset, .unset, .unset, .unset, .unset, .unset] [(.ref t12), (.int (q0.toInt32)), (.ref b8), (.ref b8)])) rfl (by rw [hml]; rfl) (Steps.refl _) (a := b8) (argsL := [(.int (q0.toInt32)), (.ref t12)]) (rest := [(.ref b8)]) (lenOf own_pd2 rfl) rfl (by show 2 * 0 + _ ≤ _; exact Nat.le_of_eq rfl) (hb hby at_35) (fun _ _ => ⟨rfl, rfl, (by decide : 2 + 1 ≤ _), (by decide : 4 + 2 ≤ _)⟩)
  dsimp only [Pt.U, Pt.locs, Pt.cells, Pt.slots] at X17 l17 y17 z17 st17 hQ17
  subst l17 y17 z17
  obtain ⟨rfl, N17q, K17, Ex17, Fl17, b17, kb17, sb17, Fc17, Vb17⟩ := hQ17
  have N17 := Fr.app N12 N17q
  refine own_go (fun t_ k_ => st17.trans k_) ?_
  show own_G p.tables e below T17 (mkF m 38 #[.val (.long q0), .second, .val (.long q1), .second, .val (.long q2), .second, .val (.long q3), .second, .val (.long q4), .second, .val (.long q5), .second, .val (.int (q0.toInt32)), .val (.int (q1.toInt32)), .val (.int (own_lenOf q0)), .val (.int (own_lenOf q1)), .unset, .unset, .unset, .unset, .unset, .unset, .unset, .unset, .unset, .unset, .unset, .unset, .unset, .unset] [(.ref b8)]) _
  refine own_go (fun t_ k_ => XS.astore X17.here hx rfl (hb hby at_38) rfl rfl (l' := #[.val (.long q0), .second, .val (.long q1), .second, .val (.long q2), .second, .val (.long q3), .second, .val (.long q4), .second, .val (.long q5), .second, .val (.int (q0.toInt32)), .val (.int (q1.toInt32)), .val (.int (own_lenOf q0)), .val (.int (own_lenOf q1)), .val (.ref b8), .unset, .unset, .unset, .unset, .unset, .unset, .unset, .unset, .unset, .unset, .unset, .unset, .unset]) rfl k_) ?_
  show own_G p.tables e below T17 (mkF m 40 #[.val (.long q0), .second, .val (.long q1), .second, .val (.long q2), .second, .val (.long q3), .second, .val (.long q4), .second, .val (.long q5), .second, .val (.int (q0.toInt32)), .val (.int (q1.toInt32)), .val (.int (own_lenOf q0)), .val (.int (own_lenOf q1)), .val (.ref b8), .unset, .unset, .unset, .unset, .unset, .unset, .unset, .unset, .unset, .unset, .unset, .unset, .unset] []) _
  obtain ⟨T18, h18, X18, e18, E18, A18, D18, -, st18⟩ := newO X17 hx hZ hown (hw _ (List.mem_of_getElem? (i := 5) rfl)) (hw _ (List.mem_of_getElem? (i := 6) rfl)) (hw _ (List.mem_of_getElem? (i := 7) rfl)) rfl (g := (mkF m 40 #[.val (.long q0), .second, .val (.long q1), .second, .val (.long q2), .second, .val (.long q3), .second, .val (.long q4), .second, .val (.long q5), .second, .val (.int (q0.toInt32)), .val (.int (q1.toInt32)), .val (.int (own_lenOf q0)), .val (.int (own_lenOf q1)), .val (.ref b8), .unset, .unset, .unset, .unset, .unset, .unset, .unset, .unset, .unset, .unset, .unset, .unset, .unset] [])) rfl (hb hby at_40) (by decide) (by decide)
  obtain ⟨b18, g18⟩ : ∃ z, z = T17.heap.size := ⟨_, rfl⟩
  rw [← g18] at A18 D18 st18
  have ne19 : b8 ≠ b18 := Nat.ne_of_lt (Nat.lt_of_lt_of_le Ex17.lt (Nat.le_of_eq g18.symm))
  have ne20 : b17 ≠ b18 := Nat.ne_of_lt (Nat.lt_of_lt_of_le Vb17.lt (Nat.le_of_eq g18.symm))
  have f21 : n0 ≤ T17.heap.size := (Nat.le_trans f13 K17.1)
  have ge_b18 : n0 ≤ b18 := Nat.le_trans f21 (Nat.le_of_eq g18.symm)
  have f22 : Fld Z h18 b18 "com/example/klearance/klearance/SecurityLabel" "level" "I" (.int (0 : Int32)) := D18 (Or.inr (hw _ (List.mem_of_getElem? (i := 19) rfl))) (ty := .int) (by decide)
  have f23 : Fld Z h18 b18 "com/example/klearance/klearance/SecurityLabel" "categories" "[J" .null := D18 (Or.inr (hw _ (List.mem_of_getElem? (i := 30) rfl))) (ty := (.array .long)) (by decide)
  refine own_go st18 ?_
  show own_G p.tables e below T18 (mkF m 43 #[.val (.long q0), .second, .val (.long q1), .second, .val (.long q2), .second, .val (.long q3), .second, .val (.long q4), .second, .val (.long q5), .second, .val (.int (q0.toInt32)), .val (.int (q1.toInt32)), .val (.int (own_lenOf q0)), .val (.int (own_lenOf q1)), .val (.ref b8), .unset, .unset, .unset, .unset, .unset, .unset, .unset, .unset, .unset, .unset, .unset, .unset, .unset] [(.ref b18)]) _
  refine own_go (fun t_ k_ => XS.dup X18.here hx rfl (hb hby at_43) rfl rfl k_) ?_
  show own_G p.tables e below T18 (mkF m 44 #[.val (.long q0), .second, .val (.long q1), .second, .val (.long q2), .second, .val (.long q3), .second, .val (.long q4), .second, .val (.long q5), .second, .val (.int (q0.toInt32)), .val (.int (q1.toInt32)), .val (.int (own_lenOf q0)), .val (.int (own_lenOf q1)), .val (.ref b8), .unset, .unset, .unset, .unset, .unset, .unset, .unset, .unset, .unset, .unset, .unset, .unset, .unset] [(.ref b18), (.ref b18)]) _
  refine own_go (fun t_ k_ => XS.iload X18.here hx rfl (hb hby at_44) rfl k_) ?_
  show own_G p.tables e below T18 (mkF m 46 #[.val (.long q0), .second, .val (.long q1), .second, .val (.long q2), .second, .val (.long q3), .second, .val (.long q4), .second, .val (.long q5), .second, .val (.int (q0.toInt32)), .val (.int (q1.toInt32)), .val (.int (own_lenOf q0)), .val (.int (own_lenOf q1)), .val (.ref b8), .unset, .unset, .unset, .unset, .unset, .unset, .unset, .unset, .unset, .unset, .unset, .unset, .unset] [(.int (q1.toInt32)), (.ref b18), (.ref b18)]) _
  refine own_go (fun t_ k_ => XS.iload X18.here hx rfl (hb hby at_46) rfl k_) ?_
  show own_G p.tables e below T18 (mkF m 48 #[.val (.long q0), .second, .val (.long q1), .second, .val (.long q2), .second, .val (.long q3), .second, .val (.long q4), .second, .val (.long q5), .second, .val (.int (q0.toInt32)), .val (.int (q1.toInt32)), .val (.int (own_lenOf q0)), .val (.int (own_lenOf q1)), .val (.ref b8), .unset, .unset, .unset, .unset, .unset, .unset, .unset, .unset, .unset, .unset, .unset, .unset, .unset] [(.int (own_lenOf q1)), (.int (q1.toInt32)), (.ref b18), (.ref b18)]) _
  refine own_go (fun t_ k_ => XS.lload X18.here hx rfl (hb hby at_48) rfl k_) ?_
  show own_G p.tables e below T18 (mkF m 50 #[.val (.long q0), .second, .val (.long q1), .second, .val (.long q2), .second, .val (.long q3), .second, .val (.long q4), .second, .val (.long q5), .second, .val (.int (q0.toInt32)), .val (.int (q1.toInt32)), .val (.int (own_lenOf q0)), .val (.int (own_lenOf q1)), .val (.ref b8), .unset, .unset, .unset, .unset, .unset, .unset, .unset, .unset, .unset, .unset, .unset, .unset, .unset] [(.long q4), (.int (own_lenOf q1)), (.int (q1.toInt32)), (.ref b18), (.ref b18)]) _
  refine own_go (fun t_ k_ => XS.lload X18.here hx rfl (hb hby at_50) rfl k_) ?_
  show own_G p.tables e below T18 (mkF m 52 #[.val (.long q0), .second, .val (.long q1), .second, .val (.long q2), .second, .val (.long q3), .second, .val (.long q4), .second, .val (.long q5), .second, .val (.int (q0.toInt32)), .val (.int (q1.toInt32)), .val (.int (own_lenOf q0)), .val (.int (own_lenOf q1)), .val (.ref b8), .unset, .unset, .unset, .unset, .unset, .unset, .unset, .unset, .unset, .unset, .unset, .unset, .unset] [(.long q5), (.long q4), (.int (own_lenOf q1)), (.int (q1.toInt32)), (.ref b18), (.ref b18)]) _
  have f24 : n0 ≤ h18.size := (Nat.le_trans f21 E18.1)
  have f25 : Exa Z h18 b8 "com/example/klearance/klearance/SecurityLabel" := (Ex17.ext E18)
  have f26 : Fld Z h18 b8 "com/example/klearance/klearance/SecurityLabel" "level" "I" (.int (q0.toInt32)) := (Fl17.ext E18)
  have f27 : Fld Z h18 b8 "com/example/klearance/klearance/SecurityLabel" "categories" "[J" (.ref b17) := (Fc17.ext E18)
  have f28 : Arv Z h18 b17 kb17 .long (own_lenOf q0) (own_cats (own_lenOf q0) q2 q3) (.long (0 : Int64)) := (Vb17.ext E18)
  obtain ⟨_, _, ⟨T29, L29, k29, n29⟩, -, X29, ⟨Lc29, hQ29, l29, y29, z29⟩, st29⟩ := Jvm.LawKit.callS X18 hx (y := (⟨"com/example/klearance/klearance/SecurityLabelDominatesPinLaw", "cats", "(IJJ)[J"⟩ : MethodName)) hown (mvT hZ (hw _ (List.mem_of_getElem? (i := 8) rfl))) (mvT hZ (hw _ (List.mem_of_getElem? (i := 9) rfl))) (mvT hZ (hw _ (List.mem_of_getElem? (i := 2) rfl))) (mvT hZ (hw _ (List.mem_of_getElem? (i := 10) rfl))) (by decide) (backOf (W := 3) (rm2 l Z a0 hw [] (own_lenOf q1) q4 q5 h18 n0 f24 (own_lens _)) hZ (hw _ (List.mem_of_getElem? (i := 10) rfl)) (hw _ (List.mem_of_getElem? (i := 2) rfl)) (by decide) (by decide)) (g := (mkF m 52 #[.val (.long q0), .second, .val (.long q1), .second, .val (.long q2), .second, .val (.long q3), .second, .val (.long q4), .second, .val (.long q5), .second, .val (.int (q0.toInt32)), .val (.int (q1.toInt32)), .val (.int (own_lenOf q0)), .val (.int (own_lenOf q1)), .val (.ref b8), .unset, .unset, .unset, .unset, .unset, .unset, .unset, .unset, .unset, .unset, .unset, .unset, .unset] [(.long q5), (.long q4), (.int (own_lenOf q1)), (.int (q1.toInt32)), (.ref b18), (.ref b18)])) rfl (by rw [hml]; rfl) (argsL := [(.int (own_lenOf q1)), (.long q4), (.long q5)]) (rest := [(.int (q1.toInt32)), (.ref b18), (.ref b18)]) (lenOf own_pd1 rfl) rfl (by show 2 * 0 + _ ≤ _; exact Nat.le_of_eq rfl) (hb hby at_52) (fun _ _ => ⟨rfl, e18, (by decide : 4 + 1 ≤ _), (by decide : 8 + 2 ≤ _)⟩)
  dsimp only [Pt.U, Pt.locs, Pt.cells, Pt.slots] at X29 l29 y29 z29 st29 hQ29
  subst l29 y29 z29
  obtain ⟨t29, k29, rfl, N29q, K29, gt29, sz29, Et29, Vt29⟩ := hQ29
  have N29 := Fr.app N17 N29q
  refine own_go st29 ?_
  show own_G p.tables e below T29 (mkF m 55 #[.val (.long q0), .second, .val (.long q1), .second, .val (.long q2), .second, .val (.long q3), .second, .val (.long q4), .second, .val (.long q5), .second, .val (.int (q0.toInt32)), .val (.int (q1.toInt32)), .val (.int (own_lenOf q0)), .val (.int (own_lenOf q1)), .val (.ref b8), .unset, .unset, .unset, .unset, .unset, .unset, .unset, .unset, .unset, .unset, .unset, .unset, .unset] [(.ref t29), (.int (q1.toInt32)), (.ref b18), (.ref b18)]) _
  have ne_29 : t29 ≠ b18 := Nat.ne_of_gt (Nat.lt_of_lt_of_le A18.lt sz29)
  have f30 : n0 ≤ T29.heap.size := (Nat.le_trans f24 K29.1)
  have f31 : Exa Z T29.heap b8 "com/example/klearance/klearance/SecurityLabel" := (f25.keep K29)
  have f32 : Fld Z T29.heap b8 "com/example/klearance/klearance/SecurityLabel" "level" "I" (.int (q0.toInt32)) := (f26.keep K29 List.not_mem_nil)
  have f33 : Fld Z T29.heap b8 "com/example/klearance/klearance/SecurityLabel" "categories" "[J" (.ref b17) := (f27.keep K29 List.not_mem_nil)
  have f34 : Arv Z T29.heap b17 kb17 .long (own_lenOf q0) (own_cats (own_lenOf q0) q2 q3) (.long (0 : Int64)) := (f28.keep K29 List.not_mem_nil)
  have f35 : Exa Z T29.heap b18 "com/example/klearance/klearance/SecurityLabel" := (A18.keep K29)
  have f36 : Fld Z T29.heap b18 "com/example/klearance/klearance/SecurityLabel" "level" "I" (.int (0 : Int32)) := (f22.keep K29 List.not_mem_nil)
  have f37 : Fld Z T29.heap b18 "com/example/klearance/klearance/SecurityLabel" "categories" "[J" .null := (f23.keep K29 List.not_mem_nil)
  obtain ⟨_, _, ⟨T38, L38, k38, n38⟩, -, X38, ⟨Lc38, hQ38, l38, y38, z38⟩, st38⟩ := X29.specialBack hx (y := (⟨"com/example/klearance/klearance/SecurityLabel", "<init>", "(I[J)V"⟩ : MethodName)) rfl hown (mvT hZ (hw _ (List.mem_of_getElem? (i := 12) rfl))) (mvT hZ (hw _ (List.mem_of_getElem? (i := 13) rfl))) (mvT hZ (hw _ (List.mem_of_getElem? (i := 14) rfl))) (by decide) (backOf (W := 1) (rm3 l Z a0 hw [] b18 (q1.toInt32) t29 k29 (own_lenOf q1) (own_cats (own_lenOf q1) q4 q5) T29.heap n0 f30 ge_b18 f35 f36 f37 Et29 Vt29 ne_29 (own_cap (own_lens _))) hZ (hw _ (List.mem_of_getElem? (i := 14) rfl)) (hw _ (List.mem_of_getElem? (i := 7) rfl)) (by decide) (by decide)) (g := (mkF m 55 #[.val (.long q0), .second, .val (.long q1), .second, .val (.long q2), .second, .val (.long q3), .second, .val (.long q4), .second, .val (.long q5), .second, .val (.int (q0.toInt32)), .val (.int (q1.toInt32)), .val (.int (own_lenOf q0)), .val (.int (own_lenOf q1)), .val (.ref b8), .unset, .unset, .unset, .unset, .unset, .unset, .unset, .unset, .unset, .unset, .unset, .unset, .unset] [(.ref t29), (.int (q1.toInt32)), (.ref b18), (.ref b18)])) rfl (by rw [hml]; rfl) (Steps.refl _) (a := b18) (argsL := [(.int (q1.toInt32)), (.ref t29)]) (rest := [(.ref b18)]) (lenOf own_pd2 rfl) rfl (by show 2 * 0 + _ ≤ _; exact Nat.le_of_eq rfl) (hb hby at_55) (fun _ _ => ⟨rfl, rfl, (by decide : 5 + 1 ≤ _), (by decide : 10 + 2 ≤ _)⟩)
  dsimp only [Pt.U, Pt.locs, Pt.cells, Pt.slots] at X38 l38 y38 z38 st38 hQ38
  subst l38 y38 z38
  obtain ⟨rfl, N38q, K38, Ex38, Fl38, b38, kb38, sb38, Fc38, Vb38⟩ := hQ38
  have N38 := Fr.app N29 N38q
  refine own_go (fun t_ k_ => st38.trans k_) ?_
  show own_G p.tables e below T38 (mkF m 58 #[.val (.long q0), .second, .val (.long q1), .second, .val (.long q2), .second, .val (.long q3), .second, .val (.long q4), .second, .val (.long q5), .second, .val (.int (q0.toInt32)), .val (.int (q1.toInt32)), .val (.int (own_lenOf q0)), .val (.int (own_lenOf q1)), .val (.ref b8), .unset, .unset, .unset, .unset, .unset, .unset, .unset, .unset, .unset, .unset, .unset, .unset, .unset] [(.ref b18)]) _
  refine own_go (fun t_ k_ => XS.astore X38.here hx rfl (hb hby at_58) rfl rfl (l' := #[.val (.long q0), .second, .val (.long q1), .second, .val (.long q2), .second, .val (.long q3), .second, .val (.long q4), .second, .val (.long q5), .second, .val (.int (q0.toInt32)), .val (.int (q1.toInt32)), .val (.int (own_lenOf q0)), .val (.int (own_lenOf q1)), .val (.ref b8), .val (.ref b18), .unset, .unset, .unset, .unset, .unset, .unset, .unset, .unset, .unset, .unset, .unset, .unset]) rfl k_) ?_
  show own_G p.tables e below T38 (mkF m 60 #[.val (.long q0), .second, .val (.long q1), .second, .val (.long q2), .second, .val (.long q3), .second, .val (.long q4), .second, .val (.long q5), .second, .val (.int (q0.toInt32)), .val (.int (q1.toInt32)), .val (.int (own_lenOf q0)), .val (.int (own_lenOf q1)), .val (.ref b8), .val (.ref b18), .unset, .unset, .unset, .unset, .unset, .unset, .unset, .unset, .unset, .unset, .unset, .unset] []) _
  refine own_go (fun t_ k_ => XS.aload X38.here hx rfl (hb hby at_60) rfl rfl k_) ?_
  show own_G p.tables e below T38 (mkF m 62 #[.val (.long q0), .second, .val (.long q1), .second, .val (.long q2), .second, .val (.long q3), .second, .val (.long q4), .second, .val (.long q5), .second, .val (.int (q0.toInt32)), .val (.int (q1.toInt32)), .val (.int (own_lenOf q0)), .val (.int (own_lenOf q1)), .val (.ref b8), .val (.ref b18), .unset, .unset, .unset, .unset, .unset, .unset, .unset, .unset, .unset, .unset, .unset, .unset] [(.ref b8)]) _
  refine own_go (fun t_ k_ => XS.aload X38.here hx rfl (hb hby at_62) rfl rfl k_) ?_
  show own_G p.tables e below T38 (mkF m 64 #[.val (.long q0), .second, .val (.long q1), .second, .val (.long q2), .second, .val (.long q3), .second, .val (.long q4), .second, .val (.long q5), .second, .val (.int (q0.toInt32)), .val (.int (q1.toInt32)), .val (.int (own_lenOf q0)), .val (.int (own_lenOf q1)), .val (.ref b8), .val (.ref b18), .unset, .unset, .unset, .unset, .unset, .unset, .unset, .unset, .unset, .unset, .unset, .unset] [(.ref b18), (.ref b8)]) _
  have f39 : n0 ≤ T38.heap.size := (Nat.le_trans f30 K38.1)
  have f40 : Exa Z T38.heap b8 "com/example/klearance/klearance/SecurityLabel" := (f31.keep K38)
  have f41 : Fld Z T38.heap b8 "com/example/klearance/klearance/SecurityLabel" "level" "I" (.int (q0.toInt32)) := (f32.keep K38 (fun q => ne19 (List.mem_singleton.mp q)))
  have f42 : Fld Z T38.heap b8 "com/example/klearance/klearance/SecurityLabel" "categories" "[J" (.ref b17) := (f33.keep K38 (fun q => ne19 (List.mem_singleton.mp q)))
  have f43 : Arv Z T38.heap b17 kb17 .long (own_lenOf q0) (own_cats (own_lenOf q0) q2 q3) (.long (0 : Int64)) := (f34.keep K38 (fun q => ne20 (List.mem_singleton.mp q)))
  obtain ⟨cq44, kq44, q44a, q44b, q44c⟩ := isOf hZ rfl f40
  obtain ⟨_, _, ⟨T44, L44, k44, n44⟩, -, X44, ⟨Lc44, hQ44, l44, y44, z44⟩, st44⟩ := X38.virtualBack hx (y := (⟨"com/example/klearance/klearance/SecurityLabel", "dominates", "(Lcom/example/klearance/klearance/SecurityLabel;)Z"⟩ : MethodName)) (z := (⟨"com/example/klearance/klearance/SecurityLabel", "dominates", "(Lcom/example/klearance/klearance/SecurityLabel;)Z"⟩ : MethodName)) hown (mvT hZ (hw _ (List.mem_of_getElem? (i := 31) rfl))) (mvT hZ (hw _ (List.mem_of_getElem? (i := 32) rfl))) (notFace_of_selects (args := #[]) (mvT hZ (hw _ (List.mem_of_getElem? (i := 34) rfl)))) (mvT hZ (hw _ (List.mem_of_getElem? (i := 34) rfl))) (mvT hZ (hw _ (List.mem_of_getElem? (i := 33) rfl))) (by decide) (backOf (W := 0) (rm5 l Z a0 hw [] b8 b18 (q0.toInt32) (q1.toInt32) (own_lenOf q0) (own_lenOf q1) q2 q3 q4 q5 b17 b38 kb17 kb38 T38.heap n0 f39 f41 Fl38 f42 Fc38 f43 Vb38 (own_lens _) (own_lens _)) hZ (hw _ (List.mem_of_getElem? (i := 35) rfl)) (hw _ (List.mem_of_getElem? (i := 7) rfl)) (by decide) (by decide)) q44a q44c (g := (mkF m 64 #[.val (.long q0), .second, .val (.long q1), .second, .val (.long q2), .second, .val (.long q3), .second, .val (.long q4), .second, .val (.long q5), .second, .val (.int (q0.toInt32)), .val (.int (q1.toInt32)), .val (.int (own_lenOf q0)), .val (.int (own_lenOf q1)), .val (.ref b8), .val (.ref b18), .unset, .unset, .unset, .unset, .unset, .unset, .unset, .unset, .unset, .unset, .unset, .unset] [(.ref b18), (.ref b8)])) rfl (by rw [hml]; rfl) (Steps.refl _) (argsL := [(.ref b18)]) (rest := []) (lenOf own_pd3 rfl) rfl (by show 2 * 0 + _ ≤ _; exact Nat.le_of_eq rfl) (hb hby at_64) (fun _ _ => ⟨rfl, rfl, (by decide : 6 + 0 ≤ _), (by decide : 12 + 0 ≤ _)⟩)
  dsimp only [Pt.U, Pt.locs, Pt.cells, Pt.slots] at X44 l44 y44 z44 st44 hQ44
  subst l44 y44 z44
  obtain ⟨rfl, N44q, e44⟩ := hQ44
  have N44 := Fr.app N38 N44q
  refine own_go (fun t_ k_ => st44.trans k_) ?_
  show own_G p.tables e below T44 (mkF m 67 #[.val (.long q0), .second, .val (.long q1), .second, .val (.long q2), .second, .val (.long q3), .second, .val (.long q4), .second, .val (.long q5), .second, .val (.int (q0.toInt32)), .val (.int (q1.toInt32)), .val (.int (own_lenOf q0)), .val (.int (own_lenOf q1)), .val (.ref b8), .val (.ref b18), .unset, .unset, .unset, .unset, .unset, .unset, .unset, .unset, .unset, .unset, .unset, .unset] [(.int (own_dom (q0.toInt32) (q1.toInt32) (own_e0 (own_lenOf q0) q2) (own_e1 (own_lenOf q0) q3) (own_e0 (own_lenOf q1) q4) (own_e1 (own_lenOf q1) q5)))]) _
  refine own_go (fun t_ k_ => XS.istore X44.here hx rfl (hb hby at_67) rfl (l' := #[.val (.long q0), .second, .val (.long q1), .second, .val (.long q2), .second, .val (.long q3), .second, .val (.long q4), .second, .val (.long q5), .second, .val (.int (q0.toInt32)), .val (.int (q1.toInt32)), .val (.int (own_lenOf q0)), .val (.int (own_lenOf q1)), .val (.ref b8), .val (.ref b18), .val (.int (own_dom (q0.toInt32) (q1.toInt32) (own_e0 (own_lenOf q0) q2) (own_e1 (own_lenOf q0) q3) (own_e0 (own_lenOf q1) q4) (own_e1 (own_lenOf q1) q5))), .unset, .unset, .unset, .unset, .unset, .unset, .unset, .unset, .unset, .unset, .unset]) rfl k_) ?_
  show own_G p.tables e below T44 (mkF m 69 #[.val (.long q0), .second, .val (.long q1), .second, .val (.long q2), .second, .val (.long q3), .second, .val (.long q4), .second, .val (.long q5), .second, .val (.int (q0.toInt32)), .val (.int (q1.toInt32)), .val (.int (own_lenOf q0)), .val (.int (own_lenOf q1)), .val (.ref b8), .val (.ref b18), .val (.int (own_dom (q0.toInt32) (q1.toInt32) (own_e0 (own_lenOf q0) q2) (own_e1 (own_lenOf q0) q3) (own_e0 (own_lenOf q1) q4) (own_e1 (own_lenOf q1) q5))), .unset, .unset, .unset, .unset, .unset, .unset, .unset, .unset, .unset, .unset, .unset] []) _
  exact tail69 _ _ _ _ _ _ _ _ _ _ _ _ X44 (by decide) (by decide) e44 N44 rfl (own_lens _) (own_lens _)
set_option maxRecDepth 65536 in
set_option maxHeartbeats 40000000 in
theorem comes_1 {Post : Tables → Env → Array Value → State → Outcome → State → Prop} (hpost : ∀ tb e args s v u, (limb_1_1.after args s (.returned v) u = true ∧ limb_1_2.after args s (.returned v) u = true ∧ True) → FrameEnd s (.returned v) u (Jvm.fieldLocs frame_1_writes args s ++ Jvm.arrayLocs frame_1_arrays args s ++ Jvm.staticLocs frame_1_statics s) 24 128 → Post tb e args s (.returned v) u) :
    ArmFor flags0 classFile x code maxLocals ret World_1 tables_1 room_1 Calls_1 rest_1 Pre_1 Post := by
  intro l hfl _ _ p e ha hc hk s m args below hf hA hF happ hP
  obtain ⟨hcalls, hrest, hpre⟩ := hP
  obtain ⟨-, -, -, hnamed, -, -, -, hat⟩ := (Spec.applies_iff hf).mp happ
  obtain ⟨hg, hn⟩ := and_e (Cond.before_iff.mp (show (Jvm.Cond.and given_1 narrow_1).before args s = true from hpre))
  obtain ⟨g0, gr0⟩ := and_e hg
  obtain ⟨g1, gr1⟩ := and_e gr0
  obtain ⟨g2, gr2⟩ := and_e gr1
  obtain ⟨g3, gr3⟩ := and_e gr2
  obtain ⟨g4, gr4⟩ := and_e gr3
  obtain ⟨g5, gr5⟩ := and_e gr4
  obtain ⟨w0, w1, w2, w3, w4, w5, rfl⟩ : ∃ w0 w1 w2 w3 w4 w5 : Value, args = #[w0, w1, w2, w3, w4, w5] := by
    have hs : args.size = 6 := by simpa [Cond.value, given_1] using g0
    obtain ⟨L⟩ := args
    match L, hs with
    | [w0, w1, w2, w3, w4, w5], _ => exact ⟨w0, w1, w2, w3, w4, w5, rfl⟩
  have hw := fun d (hd : d ∈ tables_1) => atoms_spec (ws := Jvm.Cond.code x code maxLocals ret :: tables_1) hat d (List.mem_cons_of_mem _ hd)
  have hfit : Fit s := fun {y c} hc i hi => by
    obtain ⟨ha, rfl⟩ := Array.getElem?_eq_some_iff.mp hc
    have q := List.all_eq_true.mp ((Array.all_eq_true_iff_forall_mem.mp hF) _ (Array.getElem_mem ha)) i (List.mem_range.mpr hi)
    simpa [Array.getElem?_eq_getElem hi] using q
  obtain ⟨i0, ei0⟩ := isL_v g1
  obtain rfl : w0 = (.long i0) := Option.some.inj ei0
  obtain ⟨i1, ei1⟩ := isL_v g2
  obtain rfl : w1 = (.long i1) := Option.some.inj ei1
  obtain ⟨i2, ei2⟩ := isL_v g3
  obtain rfl : w2 = (.long i2) := Option.some.inj ei2
  obtain ⟨i3, ei3⟩ := isL_v g4
  obtain rfl : w3 = (.long i3) := Option.some.inj ei3
  obtain ⟨i4, ei4⟩ := isL_v g5
  obtain rfl : w4 = (.long i4) := Option.some.inj ei4
  obtain ⟨i5, ei5⟩ := isL_v gr5
  obtain rfl : w5 = (.long i5) := Option.some.inj ei5
  obtain ⟨n, o, h1, h2, h3, _, L, rfl, ⟨rfl, N⟩, hq⟩ := rm0 l s _ hw tables_1 i0 i1 i2 i3 i4 i5 s.heap s.heap.size (Nat.le_refl _) p e ha hc hk s m _ below hf ((Spec.applies_iff_loose hf).mp happ).1 ⟨rfl, State.Warmed39.refl s, rfl⟩ trivial
  refine ⟨n, _, h1, h2, h3, hpost _ _ _ _ _ _ ⟨Cond.after_iff.mpr rfl, Cond.after_iff.mpr (eq_i res_at (Term.int_eval (1)) rfl), trivial⟩ ⟨hq.1, hq.2.1, (hq.2.2.sift fun y hy => Or.inr (N y hy)).mono (by decide) (by decide)⟩⟩
theorem main_1_1 : Claimed_1_1 := comes_1 fun _ _ _ _ _ _ h hF => ⟨h.1, hF⟩
theorem main_1_2 : Claimed_1_2 := comes_1 fun _ _ _ _ _ _ h hF => ⟨h.2.1, hF⟩
end Jvm.Pilot.@@N@@
namespace Jvm.Pilot.@@N@@
open Jvm Jvm.ClassFile Sem Op Lib Jvm.Free Jvm.Stand Jvm.Pilot.@@N@@.Jvm.D
/-! MADE BY PROGRAM (witnessworld.py) out of the Statement's table words and the real class files: 11 classes; the members and pool entries that the words name. The judged class is class 1, her method 3. -/
namespace start1
open Jvm.ClassFile
def u (s : String) : CpInfo := .utf8 (stringToUtf16 s)
/-- a pool by its gaps: so many unusable entries, then the entry; so many at the end -/
def gap : Nat → List CpInfo → List CpInfo
  | 0, r => r
  | n + 1, r => .unusable :: gap n r
def poolList (es : List (Nat × CpInfo)) (last : Nat) : List CpInfo := es.foldr (fun e r => gap e.1 (e.2 :: r)) (gap last [])
def pool (es : List (Nat × CpInfo)) (last : Nat) : Array CpInfo := ⟨poolList es last⟩
def fileOf (pool : Array CpInfo) (this : Nat) (attrs : Array Attribute := #[]) (ms : Array MethodInfo := #[]) (fl : Nat := 33) (sup : Nat := 0) (ifs : Array Nat := #[]) (fds : Array FieldInfo := #[]) : ClassFile where
  minorVersion := 0
  majorVersion := 65
  constantPool := pool
  accessFlags := fl
  thisClass := this
  superClass := sup
  interfaces := ifs
  fields := fds
  methods := ms
  attributes := attrs
def plain (name : String) (sup : Option ClassId) : Class where
  name := name
  kind := .ordinary
  loader := none
  accessFlags := 33
  super := sup
  interfaces := #[]
  cf := none
  fields := #[]
  methods := #[]
  instanceTypes := #[]
  staticTypes := #[]
  resolved := #[]
  callSites := []
  init := .initialized
  statics := none
  mirror := none

def pool0 : Array CpInfo := pool [(5, u "<init>"), (0, u "()V"), (1, .class_ 10), (1, u "java/lang/Object"), (85, u "clone"), (0, u "()Ljava/lang/Object;")] 26

def k0c0 : Code := { maxStack := 0, maxLocals := 1, code := object_method_1_code, exceptionTable := #[], attributes := #[] }
def k0m0 : Method := { name := "<init>", desc := "()V", sig := { parameters := [], returnType := none }, accessFlags := 1, code := some k0c0 }
def k0m1 : Method := { name := "clone", desc := "()Ljava/lang/Object;", sig := { parameters := [], returnType := some (.object "java/lang/Object") }, accessFlags := 260, code := none }
/-- java/lang/Object -/
def k0 : Class := { plain "java/lang/Object" none with
  accessFlags := 33
  interfaces := #[]
  cf := some (fileOf pool0 8 #[] #[{ accessFlags := 1, nameIndex := 5, descriptorIndex := 6, attributes := #[] }, { accessFlags := 260, nameIndex := 96, descriptorIndex := 97, attributes := #[] }] 33 0 #[] #[])
  fields := #[]
  methods := #[k0m0, k0m1]
  instanceTypes := #[]
  staticTypes := #[]
  resolved := Array.replicate 124 none
  statics := none }

def pool1 : Array CpInfo := pool [(2, .class_ 4), (1, u "java/lang/Object"), (0, u "<init>"), (0, u "()V"), (0, .long 3), (1, .methodref 10 11), (0, .class_ 12), (0, .nameAndType 13 14), (0, u "com/example/klearance/klearance/SecurityLabelDominatesPinLaw"), (0, u "lenOf"), (0, u "(J)I"), (0, .class_ 16), (0, u "com/example/klearance/klearance/SecurityLabel"), (0, .methodref 10 18), (0, .nameAndType 19 20), (0, u "cats"), (0, u "(IJJ)[J"), (0, .methodref 15 22), (0, .nameAndType 5 23), (0, u "(I[J)V"), (0, .methodref 15 25), (0, .nameAndType 26 27), (0, u "dominates"), (0, u "(Lcom/example/klearance/klearance/SecurityLabel;)Z"), (5, u "law"), (0, u "(JJJJJJ)Z")] 2

def k1m0 : Method := { name := "<init>", desc := "()V", sig := { parameters := [], returnType := none }, accessFlags := 1, code := none }
def k1c1 : Code := { maxStack := 4, maxLocals := 2, code := method_2_code, exceptionTable := #[], attributes := #[] }
def k1m1 : Method := { name := "lenOf", desc := "(J)I", sig := { parameters := [.long], returnType := some .int }, accessFlags := 10, code := some k1c1 }
def k1c2 : Code := { maxStack := 4, maxLocals := 6, code := method_3_code, exceptionTable := #[], attributes := #[] }
def k1m2 : Method := { name := "cats", desc := "(IJJ)[J", sig := { parameters := [.int, .long, .long], returnType := some (.array .long) }, accessFlags := 10, code := some k1c2 }
def k1c3 : Code := { maxStack := 8, maxLocals := 30, code := code, exceptionTable := #[], attributes := #[] }
def k1m3 : Method := { name := "law", desc := "(JJJJJJ)Z", sig := { parameters := [.long, .long, .long, .long, .long, .long], returnType := some .boolean }, accessFlags := 9, code := some k1c3 }
/-- com/example/klearance/klearance/SecurityLabelDominatesPinLaw -/
def k1 : Class := { plain "com/example/klearance/klearance/SecurityLabelDominatesPinLaw" (some 0) with
  accessFlags := 49
  interfaces := #[]
  cf := some (fileOf pool1 10 #[] #[{ accessFlags := 1, nameIndex := 5, descriptorIndex := 6, attributes := #[] }, { accessFlags := 10, nameIndex := 13, descriptorIndex := 14, attributes := #[] }, { accessFlags := 10, nameIndex := 19, descriptorIndex := 20, attributes := #[] }, { accessFlags := 9, nameIndex := 33, descriptorIndex := 34, attributes := #[] }] 49 2 #[] #[])
  fields := #[]
  methods := #[k1m0, k1m1, k1m2, k1m3]
  instanceTypes := #[]
  staticTypes := #[]
  resolved := Array.replicate 37 none
  statics := none }

def pool2 : Array CpInfo := pool [(1, .methodref 2 3), (0, .class_ 4), (0, .nameAndType 5 6), (0, u "java/lang/Object"), (0, u "<init>"), (0, u "()V"), (0, .fieldref 8 9), (0, .class_ 10), (0, .nameAndType 11 12), (0, u "com/example/klearance/klearance/SecurityLabel"), (0, u "level"), (0, u "I"), (0, .methodref 14 15), (0, .class_ 16), (0, .nameAndType 17 18), (0, u "[J"), (0, u "clone"), (0, u "()Ljava/lang/Object;"), (0, .fieldref 8 20), (0, .nameAndType 21 16), (0, u "categories"), (0, .long 18446744073709551615), (1, u "(I[J)V"), (2, u "dominates"), (0, u "(Lcom/example/klearance/klearance/SecurityLabel;)Z")] 3

def k2c0 : Code := { maxStack := 2, maxLocals := 3, code := prog_19_method_1_code, exceptionTable := #[], attributes := #[] }
def k2m0 : Method := { name := "<init>", desc := "(I[J)V", sig := { parameters := [.int, (.array .long)], returnType := none }, accessFlags := 0, code := some k2c0 }
def k2c1 : Code := { maxStack := 6, maxLocals := 5, code := prog_19_method_2_code, exceptionTable := #[], attributes := #[] }
def k2m1 : Method := { name := "dominates", desc := "(Lcom/example/klearance/klearance/SecurityLabel;)Z", sig := { parameters := [(.object "com/example/klearance/klearance/SecurityLabel")], returnType := some .boolean }, accessFlags := 0, code := some k2c1 }
/-- com/example/klearance/klearance/SecurityLabel -/
def k2 : Class := { plain "com/example/klearance/klearance/SecurityLabel" (some 0) with
  accessFlags := 32
  interfaces := #[]
  cf := some (fileOf pool2 8 #[] #[{ accessFlags := 0, nameIndex := 5, descriptorIndex := 24, attributes := #[] }, { accessFlags := 0, nameIndex := 27, descriptorIndex := 28, attributes := #[] }] 32 2 #[] #[{ accessFlags := 18, nameIndex := 11, descriptorIndex := 12, attributes := #[] }, { accessFlags := 18, nameIndex := 21, descriptorIndex := 16, attributes := #[] }])
  fields := #[{ name := "level", type := .int, accessFlags := 18, slot := 0, constantValue := 0 }, { name := "categories", type := (.array .long), accessFlags := 18, slot := 1, constantValue := 0 }]
  methods := #[k2m0, k2m1]
  instanceTypes := #[.int, (.array .long)]
  staticTypes := #[]
  resolved := Array.replicate 32 none
  statics := none }

def pool3 : Array CpInfo := pool [(1, .class_ 2), (0, u "java/lang/Cloneable"), (0, .class_ 4), (0, u "java/lang/Object")] 2

/-- java/lang/Cloneable -/
def k3 : Class := { plain "java/lang/Cloneable" (some 0) with
  accessFlags := 1537
  interfaces := #[]
  cf := some (fileOf pool3 1 #[] #[] 1537 3 #[] #[])
  fields := #[]
  methods := #[]
  instanceTypes := #[]
  staticTypes := #[]
  resolved := Array.replicate 7 none
  statics := none }

def pool4 : Array CpInfo := pool [(1, u "java/io/Serializable"), (0, .class_ 1), (0, u "java/lang/Object"), (0, .class_ 3)] 3

/-- java/io/Serializable -/
def k4 : Class := { plain "java/io/Serializable" (some 0) with
  accessFlags := 1537
  interfaces := #[]
  cf := some (fileOf pool4 2 #[] #[] 1537 4 #[] #[])
  fields := #[]
  methods := #[]
  instanceTypes := #[]
  staticTypes := #[]
  resolved := Array.replicate 8 none
  statics := none }

/-- the primitive byte -/
def k5 : Class := { plain "byte" none with kind := .primitive 'B', accessFlags := 0x411 }
/-- [B -/
def k6 : Class := { plain "[B" (some 0) with kind := .array 5 .byte, interfaces := #[3, 4], accessFlags := 1041 }

/-- the primitive int -/
def k7 : Class := { plain "int" none with kind := .primitive 'I', accessFlags := 0x411 }
/-- [I -/
def k8 : Class := { plain "[I" (some 0) with kind := .array 7 .int, interfaces := #[3, 4], accessFlags := 1041 }

/-- the primitive long -/
def k9 : Class := { plain "long" none with kind := .primitive 'J', accessFlags := 0x411 }
/-- [J -/
def k10 : Class := { plain "[J" (some 0) with kind := .array 9 .long, interfaces := #[3, 4], accessFlags := 1041 }

def heap : Heap := #[]
def classes : Array Class := #[k0, k1, k2, k3, k4, k5, k6, k7, k8, k9, k10]
def interned : List (Array UInt16 × Addr) := []
def slotsUsed : Nat := 0
def theMethod : MethodId := ⟨1, 3⟩
def args0 : Array Value := #[.long 1, .long 2, .long 3, .long 4, .long 5, .long 6]
def aboutOver (below : List Frame) : State where
  vm := { classes := classes, interned := interned.toArray }
  heap := heap
  slotsUsed := slotsUsed
  threads := #[{ frames := .invoking theMethod args0 :: below }]
def below0 : List Frame := [.native { method := ⟨0, 0⟩, args := #[] }]
def about1 : State := aboutOver below0
def p0 : Program := .bare "" "" ""
def e0 : Env := launch0.env 0 0 0
theorem w_frames : about1.frames = Frame.invoking theMethod args0 :: below0 := rfl
set_option maxRecDepth 65536 in
theorem w_args : argsFit about1.vm theMethod args0 = true := by decide +kernel
set_option maxRecDepth 65536 in
theorem w_heap : heapFits about1 = true := by decide +kernel
set_option maxRecDepth 65536 in
theorem w_runnable : about1.curStatus? = some .runnable := by decide +kernel
set_option maxRecDepth 65536 in
theorem w_alone : about1.alone = true := by decide +kernel
set_option maxRecDepth 65536 in
theorem w_named : about1.methodNamed? x = some theMethod := by decide +kernel
set_option maxRecDepth 65536 in
theorem w_hears : about1.hears theMethod below0 = true := by decide +kernel
set_option maxRecDepth 65536 in
theorem w_ripe : about1.ripe theMethod args0 below0 = true := by decide +kernel
theorem w_running : about1.status = .running := rfl
set_option maxRecDepth 65536 in
theorem w_room : about1.hasRoom e0.platform room_1 = true :=
  launch0.hasRoom_least _ room_1 (by decide +kernel) (by decide +kernel) (by decide +kernel) (by decide +kernel) (by decide +kernel) (by decide +kernel)
theorem allAtoms_all (ts : List Jvm.Cond) (a : Array Jvm.Value) (st : Jvm.State) : (allAtoms ts).before a st = ts.all (fun c => c.before a st) := by
  induction ts with
  | nil => rfl
  | cons c t ih =>
    show (Jvm.Cond.and c (allAtoms t)).before a st = _
    rw [Jvm.Cond.before_and, ih, List.all_cons]
def words1 : List Jvm.Cond := Jvm.Cond.code x code maxLocals ret :: tables_1
/-- a 'code' word, met by the world's own term for the bytes: nothing is compared byte by byte -/
theorem code_word {y : MethodName} {bytes : ByteArray} {mx : Nat} {rt : Option FieldType} {a : Array Value} {s : State} {m : MethodId} {meth : Method} {c : Code} (h1 : s.methodNamed? y = some m) (h2 : s.vm.method? m = some meth) (h3 : meth.code = some c) (h4 : c.code = bytes)
    (h5 : (c.maxLocals == mx && c.exceptionTable.isEmpty && decide (c.maxStack ≤ mostOperands) && decide (meth.sig.returnType = rt) && !meth.locks && decide (parseMethodDescriptor y.desc = some meth.sig)) = true) : (Jvm.Cond.code y bytes mx rt).before a s = true := by
  simp only [Bool.and_eq_true, beq_iff_eq, Bool.not_eq_true', decide_eq_true_eq] at h5
  obtain ⟨⟨⟨⟨⟨g1, g2⟩, g3⟩, g4⟩, g5⟩, g6⟩ := h5
  simp [Cond.before, Cond.holds, Cond.value, h1, h2, h3, h4, g1, g2, g3, g4, g5, g6]
def isCode : Jvm.Cond → Bool
  | .code _ _ _ _ => true
  | _ => false
theorem all_split {L : List Jvm.Cond} {P : Jvm.Cond → Bool} (h1 : L.all (fun c => isCode c || P c) = true) (h2 : ∀ c ∈ L.filter isCode, P c = true) : L.all P = true := by
  refine List.all_eq_true.mpr fun c hc => ?_
  have h := List.all_eq_true.mp h1 c hc
  rcases Bool.eq_false_or_eq_true (isCode c) with hi | hi
  · exact h2 c (List.mem_filter.mpr ⟨hc, hi⟩)
  · simpa [hi] using h
set_option maxRecDepth 65536 in
theorem w_c0 : (Jvm.Cond.code x code maxLocals ret).before args0 about1 = true := code_word (m := ⟨1, 3⟩) (meth := k1m3) (c := k1c3) (by decide +kernel) rfl rfl rfl (by decide +kernel)
set_option maxRecDepth 65536 in
theorem w_c1 : (Jvm.Cond.code ({ cls := "com/example/klearance/klearance/SecurityLabelDominatesPinLaw", name := "lenOf", desc := "(J)I" } : Jvm.MethodName) method_2_code (2 : Nat) (Option.some Jvm.ClassFile.FieldType.int)).before args0 about1 = true := code_word (m := ⟨1, 1⟩) (meth := k1m1) (c := k1c1) (by decide +kernel) rfl rfl rfl (by decide +kernel)
set_option maxRecDepth 65536 in
theorem w_c2 : (Jvm.Cond.code ({ cls := "com/example/klearance/klearance/SecurityLabelDominatesPinLaw", name := "cats", desc := "(IJJ)[J" } : Jvm.MethodName) method_3_code (6 : Nat) (Option.some (Jvm.ClassFile.FieldType.array Jvm.ClassFile.FieldType.long))).before args0 about1 = true := code_word (m := ⟨1, 2⟩) (meth := k1m2) (c := k1c2) (by decide +kernel) rfl rfl rfl (by decide +kernel)
set_option maxRecDepth 65536 in
theorem w_c3 : (Jvm.Cond.code ({ cls := "com/example/klearance/klearance/SecurityLabel", name := "<init>", desc := "(I[J)V" } : Jvm.MethodName) prog_19_method_1_code (3 : Nat) (Option.none : Option Jvm.ClassFile.FieldType)).before args0 about1 = true := code_word (m := ⟨2, 0⟩) (meth := k2m0) (c := k2c0) (by decide +kernel) rfl rfl rfl (by decide +kernel)
set_option maxRecDepth 65536 in
theorem w_c4 : (Jvm.Cond.code ({ cls := "java/lang/Object", name := "<init>", desc := "()V" } : Jvm.MethodName) object_method_1_code (1 : Nat) (Option.none : Option Jvm.ClassFile.FieldType)).before args0 about1 = true := code_word (m := ⟨0, 0⟩) (meth := k0m0) (c := k0c0) (by decide +kernel) rfl rfl rfl (by decide +kernel)
set_option maxRecDepth 65536 in
theorem w_c5 : (Jvm.Cond.code ({ cls := "com/example/klearance/klearance/SecurityLabel", name := "dominates", desc := "(Lcom/example/klearance/klearance/SecurityLabel;)Z" } : Jvm.MethodName) prog_19_method_2_code (5 : Nat) (Option.some Jvm.ClassFile.FieldType.boolean)).before args0 about1 = true := code_word (m := ⟨2, 1⟩) (meth := k2m1) (c := k2c1) (by decide +kernel) rfl rfl rfl (by decide +kernel)
def codes1 : List Jvm.Cond := [Jvm.Cond.code x code maxLocals ret, Jvm.Cond.code ({ cls := "com/example/klearance/klearance/SecurityLabelDominatesPinLaw", name := "lenOf", desc := "(J)I" } : Jvm.MethodName) method_2_code (2 : Nat) (Option.some Jvm.ClassFile.FieldType.int), Jvm.Cond.code ({ cls := "com/example/klearance/klearance/SecurityLabelDominatesPinLaw", name := "cats", desc := "(IJJ)[J" } : Jvm.MethodName) method_3_code (6 : Nat) (Option.some (Jvm.ClassFile.FieldType.array Jvm.ClassFile.FieldType.long)), Jvm.Cond.code ({ cls := "com/example/klearance/klearance/SecurityLabel", name := "<init>", desc := "(I[J)V" } : Jvm.MethodName) prog_19_method_1_code (3 : Nat) (Option.none : Option Jvm.ClassFile.FieldType), Jvm.Cond.code ({ cls := "java/lang/Object", name := "<init>", desc := "()V" } : Jvm.MethodName) object_method_1_code (1 : Nat) (Option.none : Option Jvm.ClassFile.FieldType), Jvm.Cond.code ({ cls := "com/example/klearance/klearance/SecurityLabel", name := "dominates", desc := "(Lcom/example/klearance/klearance/SecurityLabel;)Z" } : Jvm.MethodName) prog_19_method_2_code (5 : Nat) (Option.some Jvm.ClassFile.FieldType.boolean)]
set_option maxRecDepth 65536 in
theorem codes_eq : words1.filter isCode = codes1 := rfl
theorem w_codes : ∀ c ∈ words1.filter isCode, c.before args0 about1 = true := by
  rw [codes_eq]
  intro c hc
  simp only [codes1, List.mem_cons, List.not_mem_nil, or_false] at hc
  rcases hc with rfl | rfl | rfl | rfl | rfl | rfl
  · exact w_c0
  · exact w_c1
  · exact w_c2
  · exact w_c3
  · exact w_c4
  · exact w_c5
set_option maxRecDepth 65536 in
theorem w_t1 : (words1.take 24).all (fun c => isCode c || c.before args0 about1) = true := by decide +kernel
set_option maxRecDepth 65536 in
theorem w_t2 : (words1.drop 24).all (fun c => isCode c || c.before args0 about1) = true := by decide +kernel
theorem w_tables : (allAtoms (Jvm.Cond.code x code maxLocals ret :: tables_1)).before args0 about1 = true := by
  rw [allAtoms_all]
  show words1.all (fun c => c.before args0 about1) = true
  refine all_split ?_ w_codes
  rw [← List.take_append_drop 24 words1, List.all_append, w_t1, w_t2]
  rfl
set_option maxRecDepth 65536 in
theorem w_case : (Jvm.Cond.and given_1 narrow_1).before args0 about1 = true := by decide +kernel
theorem w_applies : (headSpec (Jvm.Cond.code x code maxLocals ret :: tables_1) room_1).applies x e0.platform about1 = true :=
  (Spec.applies_iff w_frames).mpr ⟨w_running, w_runnable, w_alone, w_named, w_hears, w_ripe, w_room, w_tables⟩
theorem atStart : AtStart classFile x code maxLocals ret World_1 tables_1 room_1 Calls_1 rest_1 Pre_1 launch0 p0 e0 about1 theMethod args0 below0 :=
  ⟨lists_1, trivial, launch0.admits_env _ _ _, launch0.least_env, fairChoices_fair.cas, fairChoices_fair.clock, w_frames, w_args, w_heap, w_applies, trivial, trivial, w_case⟩
end start1
theorem witness_1 : WitnessClaimed_1 := ⟨start1.p0, start1.e0, start1.about1, start1.theMethod, start1.args0, start1.below0, start1.atStart⟩
end Jvm.Pilot.@@N@@
