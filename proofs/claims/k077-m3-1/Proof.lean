import JvmDerived
import JvmDerived.Pilot.@@N@@Statement
import JvmDerived.Pilot.@@N@@Code
set_option linter.unusedVariables false
set_option linter.unusedSimpArgs false
namespace Jvm.RoadKit
open Sem ClassFile Op Lib Jvm.Stand Jvm.Free Jvm.LawKit
section New
variable {p : Program} {l : Launch} {e : Env} {R : Room} {s : State} {m : MethodId} {args : Array Value} {below : List Frame} {meth : Method} {c : Code} {T : State} {locs : List Loc} {cells slots : Nat}
theorem retI (X : Stand p l e R s m args below meth c T locs cells slots) (hx : p.tables.exec = Jvm.exec) {pc : Nat} {Ls : Array Slot} {z : Int32} {rest : List Value} (hret : meth.sig.returnType = some .int) (hd : decode c.code pc = .ok (.ireturn, 1)) {fs : List Frame}
    (hl : ∀ (f : JFrame) (acts : List Action), f.method = m → f.locked = none → f.entered = [] → (doReturn e (T.setTop f) acts (some (.int z))).1 = T.setFrames fs) : Steps p.tables e below (T.setTop (mkF m pc Ls (.int z :: rest))) (T.setFrames fs) := by
  have hm' : T.vm.method? m = some meth := X.method'
  have hn : narrow .int (.int z) = .int z := rfl
  show Steps p.tables e below (T.setTop { method := m, pc := pc, locals := Ls, stack := _ :: rest, locked := none }) _
  jvm_step X.here [X.here.top, hx, hd, hm', hret, hn]
  first | (intro acts; rw [hl _ acts rfl rfl rfl]) | rw [hl _ _ rfl rfl rfl]
  exact Steps.refl _
theorem own_retJ (X : Stand p l e R s m args below meth c T locs cells slots) (hx : p.tables.exec = Jvm.exec) {pc : Nat} {Ls : Array Slot} {z : Int64} {rest : List Value} (hret : meth.sig.returnType = some .long) (hd : decode c.code pc = .ok (.lreturn, 1)) {fs : List Frame}
    (hl : ∀ (f : JFrame) (acts : List Action), f.method = m → f.locked = none → f.entered = [] → (doReturn e (T.setTop f) acts (some (.long z))).1 = T.setFrames fs) : Steps p.tables e below (T.setTop (mkF m pc Ls (.long z :: rest))) (T.setFrames fs) := by
  have hm' : T.vm.method? m = some meth := X.method'
  show Steps p.tables e below (T.setTop { method := m, pc := pc, locals := Ls, stack := _ :: rest, locked := none }) _
  jvm_step X.here [X.here.top, hx, hd, hm', hret, narrow]
  first | (intro acts; rw [hl _ acts rfl rfl rfl]) | rw [hl _ _ rfl rfl rfl]
  exact Steps.refl _
theorem own_retR (X : Stand p l e R s m args below meth c T locs cells slots) (hx : p.tables.exec = Jvm.exec) {pc : Nat} {Ls : Array Slot} {z : Value} (hz : z.isRef = true) {rest : List Value} {t : FieldType} (hret : meth.sig.returnType = some t) (ht : t.isReference = true) (hd : decode c.code pc = .ok (.areturn, 1)) {fs : List Frame}
    (hl : ∀ (f : JFrame) (acts : List Action), f.method = m → f.locked = none → f.entered = [] → (doReturn e (T.setTop f) acts (some z)).1 = T.setFrames fs) : Steps p.tables e below (T.setTop (mkF m pc Ls (z :: rest))) (T.setFrames fs) := by
  have hm' : T.vm.method? m = some meth := X.method'
  show Steps p.tables e below (T.setTop { method := m, pc := pc, locals := Ls, stack := _ :: rest, locked := none }) _
  rcases ref_cases hz with rfl | ⟨a, rfl⟩ <;> cases t <;> first
    | (simp [FieldType.isReference] at ht; done)
    | (jvm_step X.here [X.here.top, hx, hd, hm', hret, Value.isRef, FieldType.isReference]
       first | (intro acts; rw [hl _ acts rfl rfl rfl]) | rw [hl _ _ rfl rfl rfl]
       exact Steps.refl _)
/-- the walk goes on: from this frame the body comes to an end at which P holds -/
def own_G (tb : Tables) (e : Env) (below : List Frame) (T : State) (f : JFrame) (P : State → Outcome → Prop) : Prop := ∃ s₂ o, Steps tb e below (T.setTop f) s₂ ∧ P s₂ o
def own_P (below : List Frame) (s : State) (Q : Option Value → Heap → List Loc → Prop) (ck kk : Nat) : State → Outcome → Prop := fun s₂ o => s₂.status = .running ∧ Ended s₂ below o ∧ ∃ v L, o = .returned v ∧ Q v s₂.heap L ∧ FrameEnd s o s₂ L ck kk
theorem own_go {tb : Tables} {e : Env} {below : List Frame} {T T' : State} {f f' : JFrame} {P : State → Outcome → Prop} (h : ∀ t, Steps tb e below (T'.setTop f') t → Steps tb e below (T.setTop f) t) (g : own_G tb e below T' f' P) : own_G tb e below T f P := by
  obtain ⟨a, o, h1, h2⟩ := g; exact ⟨a, o, h a h1, h2⟩
theorem own_end (X : Stand p l e R s m args below meth c T locs cells slots) (hlocks : meth.locks = false) {v : Option Value} (hv : meth.sig.returnType = none → v = none) {f : JFrame}
    (hret : ∀ fs, (∀ (f : JFrame) (acts : List Action), f.method = m → f.locked = none → f.entered = [] → (doReturn e (T.setTop f) acts v).1 = T.setFrames fs) → Steps p.tables e below (T.setTop f) (T.setFrames fs))
    {Q : Option Value → Heap → List Loc → Prop} {h : Heap} (eT : T.heap = h) (hQ : Q v h locs) {ck kk : Nat} (hc : cells ≤ ck) (hk : slots ≤ kk) : own_G p.tables e below T f (own_P below s Q ck kk) := by
  obtain ⟨fs, hr, hrun, hended, hW, hsame⟩ := X.leave (v := v) hv hlocks
  subst eT
  exact ⟨_, _, hret fs hr, hrun, hended, _, _, rfl, hQ, ⟨_, rfl⟩, hW, hsame.mono hc hk⟩
theorem own_top {tb : Tables} {e : Env} {below : List Frame} {T : State} {f f' : JFrame} {s : State} {Q : Option Value → Heap → List Loc → Prop} {ck kk : Nat} (ef : f = f') (g : own_G tb e below T f' (own_P below s Q ck kk)) :
    ∃ s₂ o, Steps tb e below (T.setTop f) s₂ ∧ s₂.status = .running ∧ Ended s₂ below o ∧ ∃ v L, o = .returned v ∧ Q v s₂.heap L ∧ FrameEnd s o s₂ L ck kk := by
  subst ef; exact g
theorem own_sk {Z : State} {h h' : Heap} {C n d : String} {v : Value} {ws : List Addr} (F : Sta Z h C n d v) (K : Keep h h' ws) (q : ∀ x ∈ ws, ∀ c : Cell, h[x]? = some c → c.vm.isStatics = false) : Sta Z h' C n d v := by
  obtain ⟨cf, i, k, f, st, cell, h1, h2, h3, h4, h5, h6, h7⟩ := F
  exact ⟨cf, i, k, f, st, cell, h1, h2, h3, h4, K.2.1 st cell h5 (fun hm => by have := q st hm cell h5; rw [h6] at this; cases this), h6, h7⟩
theorem own_ak {Z : State} {h h' : Heap} {a : Addr} {c : Cell} {ty : FieldType} (A : Arr Z h a c ty) (K : Keep h h' []) : Arr Z h' a c ty := ⟨K.2.1 a c A.1 List.not_mem_nil, A.2⟩
theorem own_akn {Z : State} {h h' : Heap} {a : Addr} {c : Cell} {ty : FieldType} {ws : List Addr} (A : Arr Z h a c ty) (K : Keep h h' ws) (q : a ∉ ws) : Arr Z h' a c ty := ⟨K.2.1 a c A.1 q, A.2⟩
theorem own_plv {Z : State} {h : Heap} {a : Addr} {k : ClassId} {ty : FieldType} {n : Int32} {vs : List Value} {d : Value} (A : Arv Z h a k ty n vs d) : ∀ c : Cell, h[a]? = some c → c.vm.isStatics = false := fun c hc => by
  obtain ⟨cl, A, -⟩ := A; have := A.1; rw [this] at hc; cases hc; exact A.plain
theorem own_pl {Z : State} {h : Heap} {a : Addr} {C : String} (E : Exa Z h a C) : ∀ c : Cell, h[a]? = some c → c.vm.isStatics = false := fun c hc => by
  obtain ⟨cell, k, h1, _, _, h4, _⟩ := E; rw [h1] at hc; cases hc; exact h4
theorem own_pl1 {h : Heap} {a : Addr} (q : ∀ c : Cell, h[a]? = some c → c.vm.isStatics = false) : ∀ x ∈ [a], ∀ c : Cell, h[x]? = some c → c.vm.isStatics = false := fun x hx => by
  cases List.mem_singleton.mp hx; exact q
end New
end Jvm.RoadKit
namespace Jvm.Pilot.@@N@@
open Jvm Jvm.ClassFile Sem Op Lib Jvm.Free Jvm.Stand Jvm.LawKit Jvm.RoadKit Bundle Jvm.Pilot.@@N@@.Jvm.D
theorem own_pd0 : parseMethodDescriptor "(Ljava/lang/Object;)Ljava/lang/Object;" = some ⟨[(.object "java/lang/Object")], some (.object "java/lang/Object")⟩ := by decide +kernel
theorem own_pd1 : parseMethodDescriptor "(Ljava/lang/Object;)V" = some ⟨[(.object "java/lang/Object")], none⟩ := by decide +kernel
theorem own_pd2 : parseMethodDescriptor "()Ljava/util/Optional;" = some ⟨[], some (.object "java/util/Optional")⟩ := by decide +kernel
theorem own_pd3 : parseMethodDescriptor "()[Lcom/example/atmost1/atmost1/server/UnlockStatus;" = some ⟨[], some (.array (.object "com/example/atmost1/atmost1/server/UnlockStatus"))⟩ := by decide +kernel
theorem own_pd4 : parseMethodDescriptor "(Ljava/lang/Object;)Ljava/util/Optional;" = some ⟨[(.object "java/lang/Object")], some (.object "java/util/Optional")⟩ := by decide +kernel
theorem own_pd5 : parseMethodDescriptor "(J)Lcom/example/atmost1/atmost1/server/UnlockStatus;" = some ⟨[.long], some (.object "com/example/atmost1/atmost1/server/UnlockStatus")⟩ := by decide +kernel
theorem own_pd6 : parseMethodDescriptor "(J)Ljava/util/Optional;" = some ⟨[.long], some (.object "java/util/Optional")⟩ := by decide +kernel
theorem own_pd7 : parseMethodDescriptor "()Z" = some ⟨[], some .boolean⟩ := by decide +kernel
theorem own_pd8 : parseMethodDescriptor "()Ljava/lang/Object;" = some ⟨[], some (.object "java/lang/Object")⟩ := by decide +kernel
theorem own_pd9 : parseMethodDescriptor "()I" = some ⟨[], some .int⟩ := by decide +kernel
theorem own_pn0 : plainName "java/util/Optional" = true := by first | (simp [plainName, overriddenIn]; done) | decide +kernel
theorem own_pn1 : plainName "com/example/atmost1/atmost1/server/UnlockStatus" = true := by first | (simp [plainName, overriddenIn]; done) | decide +kernel
theorem own_pn2 : plainName "java/util/Objects" = true := by first | (simp [plainName, overriddenIn]; done) | decide +kernel
theorem own_pn3 : plainName "com/example/atmost1/atmost1/server/UnlockStatusOfPinLaw" = true := by first | (simp [plainName, overriddenIn]; done) | decide +kernel

theorem own_field {args : Array Value} {s : State} {t : Term} {a : Addr} {K n d : String} {v : Int32} (ht : t.eval args s none [] s = some (.ref a)) (h : (Jvm.Cond.eq (.field t K n d) (.int v)).value args s none s [] = some true) : s.fieldOf? a K n d = some (.int v) := by
  have e1 : (Term.field t K n d).eval args s none [] s = s.fieldOf? a K n d := fld_at ht
  have e2 : (Term.int v).eval args s none [] s = some (.int v) := rfl
  generalize hx : s.fieldOf? a K n d = x at e1
  simp only [Jvm.Cond.value, e1, e2] at h
  split at h <;> simp_all
theorem own_apart {s : State} {a b : Addr} {K n d : String} {v w : Int32} (ha : s.fieldOf? a K n d = some (.int v)) (hb : s.fieldOf? b K n d = some (.int w)) (hn : v ≠ w) : ¬ (Value.ref a = Value.ref b) := fun q => by
  cases q; rw [ha] at hb; cases hb; exact hn rfl


theorem own_len {args : Array Value} {s : State} {t : Term} {a : Addr} {cl : Cell} {n : Int32} (ht : t.eval args s none [] s = some (.ref a)) (ha : s.arrayAt? a = some cl) (h : (Jvm.Cond.eq (.length t) (.int n)).value args s none s [] = some true) : cl.slots.size < 2 ^ 31 ∧ cl.slots.size.toInt32 = n := by
  have e2 : (Term.int n).eval args s none [] s = some (.int n) := rfl
  by_cases q : cl.slots.size < 2 ^ 31
  · have e1 := len_f (args := args) (first := s) (o := none) (idx := []) ht ha q
    refine ⟨q, ?_⟩
    simpa [Jvm.Cond.value, e1, e2] using h
  · exfalso
    have e1 : (Term.length t).eval args s none [] s = none := by simp [Term.eval, ht, ha, q]
    simp [Jvm.Cond.value, e1] at h
theorem own_eqi {args : Array Value} {s : State} {idx : List Nat} {t : Term} {v : Int32} {x : Option Value} (e1 : t.eval args s none idx s = x) (h : (Jvm.Cond.eq t (.int v)).value args s none s idx = some true) : x = some (.int v) := by
  have e2 : (Term.int v).eval args s none idx s = some (.int v) := rfl
  simp only [Jvm.Cond.value, e1, e2] at h
  split at h <;> simp_all
theorem own_elem {args : Array Value} {s : State} {t : Term} {a : Addr} {cl : Cell} {j v : Int32} (ht : t.eval args s none [] s = some (.ref a)) (ha : s.arrayAt? a = some cl) (hj : ¬ j < 0) (h : (Jvm.Cond.eq (.elem t (.int j)) (.int v)).value args s none s [] = some true) : cl.slots[j.toNatClampNeg]? = some (.int v) :=
  own_eqi (elem_f (a := Term.int j) ht rfl ha hj) h
theorem own_back {k : Nat} (hk : k < 2 ^ 31) : k.toInt32.toNatClampNeg = k ∧ ¬ k.toInt32 < 0 := by
  have q := len_toInt hk
  refine ⟨by simp only [Int32.toNatClampNeg, q]; omega, ?_⟩
  rw [Int32.lt_iff_toInt_lt, q]; have : (0 : Int32).toInt = 0 := rfl
  omega
theorem own_elemI {args : Array Value} {s : State} {t : Term} {a : Addr} {cl : Cell} {v : Int32} {k : Nat} (ht : t.eval args s none [k] s = some (.ref a)) (ha : s.arrayAt? a = some cl) (hk : k < 2 ^ 31) (h : (Jvm.Cond.eq (.elem t (.index 0)) (.int v)).value args s none s [k] = some true) : cl.slots[k]? = some (.int v) := by
  have q := own_back hk
  have r := own_eqi (elem_f (a := Term.index 0) ht (rfl : (Term.index 0).eval args s none [k] s = some (.int k.toInt32)) ha q.2) h
  rwa [q.1] at r
theorem own_all3 {args : Array Value} {s : State} {t : Term} {a : Addr} {cl : Cell} {lo hi v : Int32} {k : Nat} (ht : ∀ idx, t.eval args s none idx s = some (.ref a)) (ha : s.arrayAt? a = some cl) (hs : cl.slots.size < 2 ^ 31)
    (h : (Jvm.Cond.all t (.or (.lt (.index 0) (.int lo)) (.or (.le (.int hi) (.index 0)) (.eq (.elem t (.index 0)) (.int v))))).value args s none s [] = some true)
    (hk : k < cl.slots.size) (h1 : ¬ k.toInt32 < lo) (h2 : ¬ hi ≤ k.toInt32) : cl.slots[k]? = some (.int v) := by
  have q := Cond.all_elim (ht []) ha h k hk
  have i0 : (Term.index 0).eval args s none [k] s = some (.int k.toInt32) := rfl
  have l0 : (Term.int lo).eval args s none [k] s = some (.int lo) := rfl
  have l1 : (Term.int hi).eval args s none [k] s = some (.int hi) := rfl
  rw [Cond.or_of_right (nay (Cond.lt_ints i0 l0) h1), Cond.or_of_right (nay (Cond.le_ints l1 i0) h2)] at q
  exact own_elemI (ht [k]) ha (by omega) q
theorem own_all2 {args : Array Value} {s : State} {t : Term} {a : Addr} {cl : Cell} {hi v : Int32} {k : Nat} (ht : ∀ idx, t.eval args s none idx s = some (.ref a)) (ha : s.arrayAt? a = some cl) (hs : cl.slots.size < 2 ^ 31)
    (h : (Jvm.Cond.all t (.or (.le (.int hi) (.index 0)) (.eq (.elem t (.index 0)) (.int v)))).value args s none s [] = some true)
    (hk : k < cl.slots.size) (h2 : ¬ hi ≤ k.toInt32) : cl.slots[k]? = some (.int v) := by
  have q := Cond.all_elim (ht []) ha h k hk
  have i0 : (Term.index 0).eval args s none [k] s = some (.int k.toInt32) := rfl
  have l1 : (Term.int hi).eval args s none [k] s = some (.int hi) := rfl
  rw [Cond.or_of_right (nay (Cond.le_ints l1 i0) h2)] at q
  exact own_elemI (ht [k]) ha (by omega) q
theorem own_nlt {k : Nat} {n : Int32} (hk : k < 2 ^ 31) (h : n.toInt ≤ (k : Int)) : ¬ k.toInt32 < n := by
  rw [Int32.lt_iff_toInt_lt, len_toInt hk]; omega
theorem own_nle {k : Nat} {n : Int32} (hk : k < 2 ^ 31) (h : (k : Int) < n.toInt) : ¬ n ≤ k.toInt32 := by
  rw [Int32.le_iff_toInt_le, len_toInt hk]; omega


theorem own_elemR {args : Array Value} {s : State} {t u : Term} {a w : Addr} {cl : Cell} {j : Int32} (ht : t.eval args s none [] s = some (.ref a)) (ha : s.arrayAt? a = some cl) (hj : ¬ j < 0) (hu : u.eval args s none [] s = some (.ref w)) (h : (Jvm.Cond.eq (.elem t (.int j)) u).value args s none s [] = some true) : cl.slots[j.toNatClampNeg]? = some (.ref w) := by
  have e1 : (Term.elem t (.int j)).eval args s none [] s = cl.slots[j.toNatClampNeg]? := elem_f ht rfl ha hj
  generalize cl.slots[j.toNatClampNeg]? = x at e1 ⊢
  simp only [Jvm.Cond.value, e1, hu] at h
  split at h <;> simp_all

theorem d3_0 : decode jdk_32_method_1_code 0 = .ok (.getstatic 1, 3) := by decide +kernel
theorem d3_3 : decode jdk_32_method_1_code 3 = .ok (.astore_n 0, 1) := by decide +kernel
theorem d3_4 : decode jdk_32_method_1_code 4 = .ok (.aload_n 0, 1) := by decide +kernel
theorem d3_5 : decode jdk_32_method_1_code 5 = .ok (.areturn, 1) := by decide +kernel
theorem ef_3 (m : MethodId)  : entryFrame m #[] 1 = mkF m 0 #[.unset] [] := by first | (simp [entryFrame, mkF, argsToLocals, Value.category]; done) | rfl
def Q3 (Z : State)  (aE : Addr) (h0 : Heap) (n0 : Nat) (v : Option Value) (h : Heap) (L : List Loc) : Prop := v = some (.ref aE) ∧ Fr n0 L ∧ h = h0
set_option maxRecDepth 65536 in
set_option maxHeartbeats 40000000 in
theorem rm3 (l : Launch) (Z : State) (a0 : Array Value) (hw : ∀ d ∈ tables_1, d.before a0 Z = true) (ws : List Jvm.Cond)  (aE : Addr) (h0 : Heap) (n0 : Nat) (Z0 : n0 ≤ h0.size) (S_E : Sta Z h0 "java/util/Optional" "EMPTY" "Ljava/util/Optional;" (.ref aE)) :
    MetFree l (⟨"java/util/Optional", "empty", "()Ljava/util/Optional;"⟩ : MethodName) (head1 (Jvm.Cond.code (⟨"java/util/Optional", "empty", "()Ljava/util/Optional;"⟩ : MethodName) jdk_32_method_1_code 1 (some (.object "java/util/Optional")) :: ws) ({ frames := 0, cells := 0, slots := 0, locals := 0 } : Room)) (fun a U => a = #[] ∧ Z.Warmed39 U.vm ∧ U.heap = h0) (fun _ _ _ _ _ => True) (fun _ U o U' => ∃ v L, o = .returned v ∧ Q3 Z aE h0 n0 v U'.heap L ∧ FrameEnd U o U' L ({ frames := 0, cells := 0, slots := 0, locals := 0 } : Room).cells ({ frames := 0, cells := 0, slots := 0, locals := 0 } : Room).slots) := by
  refine MetFree.of_bodySF (plainFor_of_name own_pn0) hisR ?_
  intro p e s m args below meth c s₁ Bd hml0 hP hK
  obtain ⟨rfl, hZ, hh⟩ := hP
  have hx := Bd.exec
  have hby := Bd.bytes
  have hml : c.maxLocals = 1 := hml0
  have hown : s.vm.findClass "java/util/Optional" = some m.cls := findClass_of_methodNamed Bd.named
  have hnm := (name_of_methodNamed Bd.named Bd.method).1
  have X0 : Stand p l e ({ frames := 0, cells := 0, slots := 0, locals := 0 } : Room) s m #[] below meth c s₁ [] 0 0 := Stand.of_body Bd
  have e0 : s₁.heap = h0 := by rw [← hh, Bd.state]; rfl
  have N0 := Fr.nil n0
  refine own_top (Q := Q3 Z aE h0 n0) (ef_3 m ) ?_
  show own_G p.tables e below s₁ (mkF m 0 #[.unset] []) _
  obtain ⟨T1, X1, e1, st1⟩ := getS2 X0 hx hZ hown (host := "") (Or.inl (hw _ (List.mem_of_getElem? (i := 13) rfl))) Via.refl e0 S_E (g := (mkF m 0 #[.unset] [])) rfl (hb hby d3_0)
  refine own_go st1 ?_
  show own_G p.tables e below T1 (mkF m 3 #[.unset] [(.ref aE)]) _
  refine own_go (fun t_ k_ => XS.astoreN X1.here hx rfl (hb hby d3_3) rfl rfl (l' := #[.val (.ref aE)]) rfl k_) ?_
  show own_G p.tables e below T1 (mkF m 4 #[.val (.ref aE)] []) _
  refine own_go (fun t_ k_ => XS.aloadN X1.here hx rfl (hb hby d3_4) rfl rfl k_) ?_
  show own_G p.tables e below T1 (mkF m 5 #[.val (.ref aE)] [(.ref aE)]) _
  exact own_end (v := some (.ref aE)) X1 Bd.notSynchronized (fun h => by rw [Bd.returns] at h; cases h) (fun fs hr => own_retR X1 hx rfl Bd.returns rfl (hb hby d3_5) hr) e1 ⟨rfl, N0, rfl⟩ (by decide) (by decide)
theorem d4_0 : decode prog_28_method_1_code 0 = .ok (.getstatic 13, 3) := by decide +kernel
theorem d4_3 : decode prog_28_method_1_code 3 = .ok (.invokevirtual 17, 3) := by decide +kernel
theorem d4_6 : decode prog_28_method_1_code 6 = .ok (.checkcast 18, 3) := by decide +kernel
theorem d4_9 : decode prog_28_method_1_code 9 = .ok (.areturn, 1) := by decide +kernel
theorem ef_4 (m : MethodId)  : entryFrame m #[] 0 = mkF m 0 #[] [] := by first | (simp [entryFrame, mkF, argsToLocals, Value.category]; done) | rfl
def Q4 (Z : State)  (aV : Addr) (clV : Cell) (h0 : Heap) (n0 : Nat) (v : Option Value) (h : Heap) (L : List Loc) : Prop := ∃ b : Addr, v = some (.ref b) ∧ Fr n0 L ∧ Keep h0 h [] ∧ n0 ≤ b ∧ h0.size ≤ b ∧ Arr Z h b (cloneOf clV) (.object "com/example/atmost1/atmost1/server/UnlockStatus")
set_option maxRecDepth 65536 in
set_option maxHeartbeats 40000000 in
theorem rm4 (l : Launch) (Z : State) (a0 : Array Value) (hw : ∀ d ∈ tables_1, d.before a0 Z = true) (ws : List Jvm.Cond)  (aV : Addr) (clV : Cell) (h0 : Heap) (n0 : Nat) (Z0 : n0 ≤ h0.size) (S_V : Sta Z h0 "com/example/atmost1/atmost1/server/UnlockStatus" "$VALUES" "[Lcom/example/atmost1/atmost1/server/UnlockStatus;" (.ref aV)) (A_V : Arr Z h0 aV clV (.object "com/example/atmost1/atmost1/server/UnlockStatus")) (E_V : Exa Z h0 aV "[Lcom/example/atmost1/atmost1/server/UnlockStatus;") (Fit_V : FitC Z clV) (sz_V : clV.slots.size = 3) :
    MetFree l (⟨"com/example/atmost1/atmost1/server/UnlockStatus", "values", "()[Lcom/example/atmost1/atmost1/server/UnlockStatus;"⟩ : MethodName) (head1 (Jvm.Cond.code (⟨"com/example/atmost1/atmost1/server/UnlockStatus", "values", "()[Lcom/example/atmost1/atmost1/server/UnlockStatus;"⟩ : MethodName) prog_28_method_1_code 0 (some (.array (.object "com/example/atmost1/atmost1/server/UnlockStatus"))) :: ws) ({ frames := 1, cells := 1, slots := 3, locals := 14 } : Room)) (fun a U => a = #[] ∧ Z.Warmed39 U.vm ∧ U.heap = h0) (fun _ _ _ _ _ => True) (fun _ U o U' => ∃ v L, o = .returned v ∧ Q4 Z aV clV h0 n0 v U'.heap L ∧ FrameEnd U o U' L ({ frames := 1, cells := 1, slots := 3, locals := 14 } : Room).cells ({ frames := 1, cells := 1, slots := 3, locals := 14 } : Room).slots) := by
  refine MetFree.of_bodySF (plainFor_of_name own_pn1) hisR ?_
  intro p e s m args below meth c s₁ Bd hml0 hP hK
  obtain ⟨rfl, hZ, hh⟩ := hP
  have hx := Bd.exec
  have hby := Bd.bytes
  have hml : c.maxLocals = 0 := hml0
  have hown : s.vm.findClass "com/example/atmost1/atmost1/server/UnlockStatus" = some m.cls := findClass_of_methodNamed Bd.named
  have hnm := (name_of_methodNamed Bd.named Bd.method).1
  have X0 : Stand p l e ({ frames := 1, cells := 1, slots := 3, locals := 14 } : Room) s m #[] below meth c s₁ [] 0 0 := Stand.of_body Bd
  have e0 : s₁.heap = h0 := by rw [← hh, Bd.state]; rfl
  have N0 := Fr.nil n0
  refine own_top (Q := Q4 Z aV clV h0 n0) (ef_4 m ) ?_
  show own_G p.tables e below s₁ (mkF m 0 #[] []) _
  obtain ⟨T1, X1, e1, st1⟩ := getS2 X0 hx hZ hown (host := "") (Or.inl (hw _ (List.mem_of_getElem? (i := 17) rfl))) Via.refl e0 S_V (g := (mkF m 0 #[] [])) rfl (hb hby d4_0)
  refine own_go st1 ?_
  show own_G p.tables e below T1 (mkF m 3 #[] [(.ref aV)]) _
  obtain ⟨T2, h2, X2, e2, E2, A2, Ex2, st2⟩ := cloneA X1 hx hZ hown (hw _ (List.mem_of_getElem? (i := 19) rfl)) (hw _ (List.mem_of_getElem? (i := 20) rfl)) (hw _ (List.mem_of_getElem? (i := 24) rfl)) (hw _ (List.mem_of_getElem? (i := 22) rfl)) (hw _ (List.mem_of_getElem? (i := 23) rfl)) (hw _ (List.mem_of_getElem? (i := 25) rfl)) e1 A_V E_V Fit_V (g := (mkF m 3 #[] [(.ref aV)])) rfl (by rw [hml]; rfl) rfl (hb hby d4_3) (by decide) (W := 0) (cap := 3) (by show 2 * 0 + _ ≤ _; exact Nat.le_of_eq rfl) (by decide) (Nat.le_of_eq sz_V) (by decide) (by decide)
  obtain ⟨b2, g2⟩ : ∃ z, z = h0.size := ⟨_, rfl⟩
  rw [← g2] at A2 Ex2 st2
  have ne3 : aV ≠ b2 := Nat.ne_of_lt (Nat.lt_of_lt_of_le A_V.lt (Nat.le_of_eq g2.symm))
  have ge_b2 : n0 ≤ b2 := Nat.le_trans Z0 (Nat.le_of_eq g2.symm)
  have sz_b2 : h0.size ≤ b2 := Nat.le_trans (Keep.refl h0 []).1 (Nat.le_of_eq g2.symm)
  refine own_go st2 ?_
  show own_G p.tables e below T2 (mkF m 6 #[] [(.ref b2)]) _
  obtain ⟨T4, X4, e4, st4⟩ := castY X2 hx hZ hown (hw _ (List.mem_of_getElem? (i := 30) rfl)) e2 (Ins.self Ex2) (g := (mkF m 6 #[] [(.ref b2)])) rfl rfl (hb hby d4_6)
  refine own_go st4 ?_
  show own_G p.tables e below T4 (mkF m 9 #[] [(.ref b2)]) _
  have f5 : Keep h0 h2 [] := ((Keep.refl h0 []).ext E2)
  exact own_end (v := some (.ref b2)) X4 Bd.notSynchronized (fun h => by rw [Bd.returns] at h; cases h) (fun fs hr => own_retR X4 hx rfl Bd.returns rfl (hb hby d4_9) hr) e4 ⟨_, rfl, N0, f5, ge_b2, sz_b2, A2⟩ (by decide) (by decide)
theorem d7_0 : decode jdk_31_method_10_code 0 = .ok (.aload_n 0, 1) := by decide +kernel
theorem d7_1 : decode jdk_31_method_10_code 1 = .ok (.ifnonnull 11, 3) := by decide +kernel
theorem d7_12 : decode jdk_31_method_10_code 12 = .ok (.aload_n 0, 1) := by decide +kernel
theorem d7_13 : decode jdk_31_method_10_code 13 = .ok (.areturn, 1) := by decide +kernel
theorem ef_7 (m : MethodId) (a1 : Addr) : entryFrame m #[(.ref a1)] 1 = mkF m 0 #[.val (.ref a1)] [] := by first | (simp [entryFrame, mkF, argsToLocals, Value.category]; done) | rfl
def Q7 (Z : State) (a1 : Addr)  (h0 : Heap) (n0 : Nat) (v : Option Value) (h : Heap) (L : List Loc) : Prop := v = some (.ref a1) ∧ Fr n0 L ∧ h = h0
set_option maxRecDepth 65536 in
set_option maxHeartbeats 40000000 in
theorem rm7 (l : Launch) (Z : State) (a0 : Array Value) (hw : ∀ d ∈ tables_1, d.before a0 Z = true) (ws : List Jvm.Cond) (a1 : Addr)  (h0 : Heap) (n0 : Nat) (Z0 : n0 ≤ h0.size) :
    MetFree l (⟨"java/util/Objects", "requireNonNull", "(Ljava/lang/Object;)Ljava/lang/Object;"⟩ : MethodName) (head1 (Jvm.Cond.code (⟨"java/util/Objects", "requireNonNull", "(Ljava/lang/Object;)Ljava/lang/Object;"⟩ : MethodName) jdk_31_method_10_code 1 (some (.object "java/lang/Object")) :: ws) ({ frames := 0, cells := 0, slots := 0, locals := 0 } : Room)) (fun a U => a = #[(.ref a1)] ∧ Z.Warmed39 U.vm ∧ U.heap = h0) (fun _ _ _ _ _ => True) (fun _ U o U' => ∃ v L, o = .returned v ∧ Q7 Z a1 h0 n0 v U'.heap L ∧ FrameEnd U o U' L ({ frames := 0, cells := 0, slots := 0, locals := 0 } : Room).cells ({ frames := 0, cells := 0, slots := 0, locals := 0 } : Room).slots) := by
  refine MetFree.of_bodySF (plainFor_of_name own_pn2) hisR ?_
  intro p e s m args below meth c s₁ Bd hml0 hP hK
  obtain ⟨rfl, hZ, hh⟩ := hP
  have hx := Bd.exec
  have hby := Bd.bytes
  have hml : c.maxLocals = 1 := hml0
  have hown : s.vm.findClass "java/util/Objects" = some m.cls := findClass_of_methodNamed Bd.named
  have hnm := (name_of_methodNamed Bd.named Bd.method).1
  have X0 : Stand p l e ({ frames := 0, cells := 0, slots := 0, locals := 0 } : Room) s m #[(.ref a1)] below meth c s₁ [] 0 0 := Stand.of_body Bd
  have e0 : s₁.heap = h0 := by rw [← hh, Bd.state]; rfl
  have N0 := Fr.nil n0
  refine own_top (Q := Q7 Z a1 h0 n0) (ef_7 m a1) ?_
  show own_G p.tables e below s₁ (mkF m 0 #[.val (.ref a1)] []) _
  refine own_go (fun t_ k_ => XS.aloadN X0.here hx rfl (hb hby d7_0) rfl rfl k_) ?_
  show own_G p.tables e below s₁ (mkF m 1 #[.val (.ref a1)] [(.ref a1)]) _
  refine own_go (fun t_ k_ => XS.ifnonnullYes X0.here hx rfl (pc0 := 1) (pc' := 12) rfl (hb hby d7_1) rfl (by decide) (by decide) k_) ?_
  show own_G p.tables e below s₁ (mkF m 12 #[.val (.ref a1)] []) _
  refine own_go (fun t_ k_ => XS.aloadN X0.here hx rfl (hb hby d7_12) rfl rfl k_) ?_
  show own_G p.tables e below s₁ (mkF m 13 #[.val (.ref a1)] [(.ref a1)]) _
  exact own_end (v := some (.ref a1)) X0 Bd.notSynchronized (fun h => by rw [Bd.returns] at h; cases h) (fun fs hr => own_retR X0 hx rfl Bd.returns rfl (hb hby d7_13) hr) e0 ⟨rfl, N0, rfl⟩ (by decide) (by decide)
theorem d8_0 : decode jdk_32_method_2_code 0 = .ok (.aload_n 0, 1) := by decide +kernel
theorem d8_1 : decode jdk_32_method_2_code 1 = .ok (.invokespecial 7, 3) := by decide +kernel
theorem d8_4 : decode jdk_32_method_2_code 4 = .ok (.aload_n 0, 1) := by decide +kernel
theorem d8_5 : decode jdk_32_method_2_code 5 = .ok (.aload_n 1, 1) := by decide +kernel
theorem d8_6 : decode jdk_32_method_2_code 6 = .ok (.putfield 13, 3) := by decide +kernel
theorem d8_9 : decode jdk_32_method_2_code 9 = .ok (.return_, 1) := by decide +kernel
theorem ef_8 (m : MethodId) (a1 : Addr) (a2 : Addr) : entryFrame m #[(.ref a1), (.ref a2)] 2 = mkF m 0 #[.val (.ref a1), .val (.ref a2)] [] := by first | (simp [entryFrame, mkF, argsToLocals, Value.category]; done) | rfl
def Q8 (Z : State) (a1 : Addr) (a2 : Addr)  (h0 : Heap) (n0 : Nat) (v : Option Value) (h : Heap) (L : List Loc) : Prop := v = none ∧ Fr n0 L ∧ Keep h0 h [a1] ∧ Exa Z h a1 "java/util/Optional" ∧ Fld Z h a1 "java/util/Optional" "value" "Ljava/lang/Object;" (.ref a2)
set_option maxRecDepth 65536 in
set_option maxHeartbeats 40000000 in
theorem rm8 (l : Launch) (Z : State) (a0 : Array Value) (hw : ∀ d ∈ tables_1, d.before a0 Z = true) (ws : List Jvm.Cond) (a1 : Addr) (a2 : Addr)  (h0 : Heap) (n0 : Nat) (Z0 : n0 ≤ h0.size) (ge1 : n0 ≤ a1) (E1 : Exa Z h0 a1 "java/util/Optional") (F1 : Fld Z h0 a1 "java/util/Optional" "value" "Ljava/lang/Object;" .null) :
    MetFree l (⟨"java/util/Optional", "<init>", "(Ljava/lang/Object;)V"⟩ : MethodName) (head1 (Jvm.Cond.code (⟨"java/util/Optional", "<init>", "(Ljava/lang/Object;)V"⟩ : MethodName) jdk_32_method_2_code 2 none :: ws) ({ frames := 1, cells := 0, slots := 0, locals := 12 } : Room)) (fun a U => a = #[(.ref a1), (.ref a2)] ∧ Z.Warmed39 U.vm ∧ U.heap = h0) (fun _ _ _ _ _ => True) (fun _ U o U' => ∃ v L, o = .returned v ∧ Q8 Z a1 a2 h0 n0 v U'.heap L ∧ FrameEnd U o U' L ({ frames := 1, cells := 0, slots := 0, locals := 12 } : Room).cells ({ frames := 1, cells := 0, slots := 0, locals := 12 } : Room).slots) := by
  refine MetFree.of_bodySF (plainFor_of_name own_pn0) hisR ?_
  intro p e s m args below meth c s₁ Bd hml0 hP hK
  obtain ⟨rfl, hZ, hh⟩ := hP
  have hx := Bd.exec
  have hby := Bd.bytes
  have hml : c.maxLocals = 2 := hml0
  have hown : s.vm.findClass "java/util/Optional" = some m.cls := findClass_of_methodNamed Bd.named
  have hnm := (name_of_methodNamed Bd.named Bd.method).1
  have X0 : Stand p l e ({ frames := 1, cells := 0, slots := 0, locals := 12 } : Room) s m #[(.ref a1), (.ref a2)] below meth c s₁ [] 0 0 := Stand.of_body Bd
  have e0 : s₁.heap = h0 := by rw [← hh, Bd.state]; rfl
  have N0 := Fr.nil n0
  refine own_top (Q := Q8 Z a1 a2 h0 n0) (ef_8 m a1 a2) ?_
  show own_G p.tables e below s₁ (mkF m 0 #[.val (.ref a1), .val (.ref a2)] []) _
  refine own_go (fun t_ k_ => XS.aloadN X0.here hx rfl (hb hby d8_0) rfl rfl k_) ?_
  show own_G p.tables e below s₁ (mkF m 1 #[.val (.ref a1), .val (.ref a2)] [(.ref a1)]) _
  obtain ⟨T1, X1, e1, st1⟩ := initO X0 hx hZ hown (hw _ (List.mem_of_getElem? (i := 55) rfl)) (hw _ (List.mem_of_getElem? (i := 56) rfl)) (hw _ (List.mem_of_getElem? (i := 57) rfl)) e0 (g := (mkF m 1 #[.val (.ref a1), .val (.ref a2)] [(.ref a1)])) rfl (by rw [hml]; rfl) rfl (hb hby d8_1) (by decide) (W := 0) (by show 2 * 0 + _ ≤ _; exact Nat.le_of_eq rfl) (by decide)
  refine own_go st1 ?_
  show own_G p.tables e below T1 (mkF m 4 #[.val (.ref a1), .val (.ref a2)] []) _
  refine own_go (fun t_ k_ => XS.aloadN X1.here hx rfl (hb hby d8_4) rfl rfl k_) ?_
  show own_G p.tables e below T1 (mkF m 5 #[.val (.ref a1), .val (.ref a2)] [(.ref a1)]) _
  refine own_go (fun t_ k_ => XS.aloadN X1.here hx rfl (hb hby d8_5) rfl rfl k_) ?_
  show own_G p.tables e below T1 (mkF m 6 #[.val (.ref a1), .val (.ref a2)] [(.ref a2), (.ref a1)]) _
  obtain ⟨T2, h2, X2, e2, W2, st2⟩ := putF X1 hx hZ hown (host := "") (Or.inl (hw _ (List.mem_of_getElem? (i := 39) rfl))) Via.refl e1 F1 E1 (Or.inr ⟨(hw _ (List.mem_of_getElem? (i := 40) rfl)), rfl, hnm⟩) (hw _ (List.mem_of_getElem? (i := 46) rfl)) (ty := (.object "java/lang/Object")) (by decide) rfl rfl (g := (mkF m 6 #[.val (.ref a1), .val (.ref a2)] [(.ref a2), (.ref a1)])) rfl rfl (hb hby d8_6)
  have N2 := Fr.snoc X2 N0 ge1
  refine own_go st2 ?_
  show own_G p.tables e below T2 (mkF m 9 #[.val (.ref a1), .val (.ref a2)] []) _
  have f3 : Fld Z h2 a1 "java/util/Optional" "value" "Ljava/lang/Object;" (.ref a2) := F1.same W2
  have f4 : Keep h0 h2 [a1] := ((Keep.refl h0 [a1]).wr W2 (Or.inl (List.mem_of_getElem? (i := 0) rfl)))
  have f5 : Exa Z h2 a1 "java/util/Optional" := (E1.wr W2)
  exact own_end (v := none) X2 Bd.notSynchronized (fun _ => rfl) (fun fs hr => X2.returnOut hx Bd.returns (hb hby d8_9) hr) e2 ⟨rfl, N2, f4, f5, f3⟩ (by decide) (by decide)
theorem d6_0 : decode jdk_32_method_3_code 0 = .ok (.new 2, 3) := by decide +kernel
theorem d6_3 : decode jdk_32_method_3_code 3 = .ok (.dup, 1) := by decide +kernel
theorem d6_4 : decode jdk_32_method_3_code 4 = .ok (.aload_n 0, 1) := by decide +kernel
theorem d6_5 : decode jdk_32_method_3_code 5 = .ok (.invokestatic 17, 3) := by decide +kernel
theorem d6_8 : decode jdk_32_method_3_code 8 = .ok (.invokespecial 23, 3) := by decide +kernel
theorem d6_11 : decode jdk_32_method_3_code 11 = .ok (.areturn, 1) := by decide +kernel
theorem ef_6 (m : MethodId) (a1 : Addr) : entryFrame m #[(.ref a1)] 1 = mkF m 0 #[.val (.ref a1)] [] := by first | (simp [entryFrame, mkF, argsToLocals, Value.category]; done) | rfl
def Q6 (Z : State) (a1 : Addr)  (h0 : Heap) (n0 : Nat) (v : Option Value) (h : Heap) (L : List Loc) : Prop := ∃ o : Addr, v = some (.ref o) ∧ Fr n0 L ∧ Keep h0 h [] ∧ n0 ≤ o ∧ h0.size ≤ o ∧ Exa Z h o "java/util/Optional" ∧ Fld Z h o "java/util/Optional" "value" "Ljava/lang/Object;" (.ref a1)
set_option maxRecDepth 65536 in
set_option maxHeartbeats 40000000 in
theorem rm6 (l : Launch) (Z : State) (a0 : Array Value) (hw : ∀ d ∈ tables_1, d.before a0 Z = true) (ws : List Jvm.Cond) (a1 : Addr)  (h0 : Heap) (n0 : Nat) (Z0 : n0 ≤ h0.size) :
    MetFree l (⟨"java/util/Optional", "of", "(Ljava/lang/Object;)Ljava/util/Optional;"⟩ : MethodName) (head1 (Jvm.Cond.code (⟨"java/util/Optional", "of", "(Ljava/lang/Object;)Ljava/util/Optional;"⟩ : MethodName) jdk_32_method_3_code 1 (some (.object "java/util/Optional")) :: ws) ({ frames := 2, cells := 1, slots := 1, locals := 26 } : Room)) (fun a U => a = #[(.ref a1)] ∧ Z.Warmed39 U.vm ∧ U.heap = h0) (fun _ _ _ _ _ => True) (fun _ U o U' => ∃ v L, o = .returned v ∧ Q6 Z a1 h0 n0 v U'.heap L ∧ FrameEnd U o U' L ({ frames := 2, cells := 1, slots := 1, locals := 26 } : Room).cells ({ frames := 2, cells := 1, slots := 1, locals := 26 } : Room).slots) := by
  refine MetFree.of_bodySF (plainFor_of_name own_pn0) hisR ?_
  intro p e s m args below meth c s₁ Bd hml0 hP hK
  obtain ⟨rfl, hZ, hh⟩ := hP
  have hx := Bd.exec
  have hby := Bd.bytes
  have hml : c.maxLocals = 1 := hml0
  have hown : s.vm.findClass "java/util/Optional" = some m.cls := findClass_of_methodNamed Bd.named
  have hnm := (name_of_methodNamed Bd.named Bd.method).1
  have X0 : Stand p l e ({ frames := 2, cells := 1, slots := 1, locals := 26 } : Room) s m #[(.ref a1)] below meth c s₁ [] 0 0 := Stand.of_body Bd
  have e0 : s₁.heap = h0 := by rw [← hh, Bd.state]; rfl
  have N0 := Fr.nil n0
  refine own_top (Q := Q6 Z a1 h0 n0) (ef_6 m a1) ?_
  show own_G p.tables e below s₁ (mkF m 0 #[.val (.ref a1)] []) _
  obtain ⟨T1, h1, X1, e1, E1, A1, D1, -, st1⟩ := newO X0 hx hZ hown (hw _ (List.mem_of_getElem? (i := 45) rfl)) (hw _ (List.mem_of_getElem? (i := 46) rfl)) (hw _ (List.mem_of_getElem? (i := 11) rfl)) e0 (g := (mkF m 0 #[.val (.ref a1)] [])) rfl (hb hby d6_0) (by decide) (by decide)
  obtain ⟨b1, g1⟩ : ∃ z, z = h0.size := ⟨_, rfl⟩
  rw [← g1] at A1 D1 st1
  have ge_b1 : n0 ≤ b1 := Nat.le_trans Z0 (Nat.le_of_eq g1.symm)
  have sz_b1 : h0.size ≤ b1 := Nat.le_trans (Keep.refl h0 []).1 (Nat.le_of_eq g1.symm)
  have f2 : Fld Z h1 b1 "java/util/Optional" "value" "Ljava/lang/Object;" .null := D1 (Or.inr (hw _ (List.mem_of_getElem? (i := 40) rfl))) (ty := (.object "java/lang/Object")) (by decide)
  refine own_go st1 ?_
  show own_G p.tables e below T1 (mkF m 3 #[.val (.ref a1)] [(.ref b1)]) _
  refine own_go (fun t_ k_ => XS.dup X1.here hx rfl (hb hby d6_3) rfl rfl k_) ?_
  show own_G p.tables e below T1 (mkF m 4 #[.val (.ref a1)] [(.ref b1), (.ref b1)]) _
  refine own_go (fun t_ k_ => XS.aloadN X1.here hx rfl (hb hby d6_4) rfl rfl k_) ?_
  show own_G p.tables e below T1 (mkF m 5 #[.val (.ref a1)] [(.ref a1), (.ref b1), (.ref b1)]) _
  have f3 : n0 ≤ h1.size := (Nat.le_trans Z0 E1.1)
  have f4 : Keep h0 h1 [] := ((Keep.refl h0 []).ext E1)
  obtain ⟨_, _, ⟨T5, L5, k5, n5⟩, -, X5, ⟨Lc5, hQ5, l5, y5, z5⟩, st5⟩ := Jvm.LawKit.callS X1 hx (y := (⟨"java/util/Objects", "requireNonNull", "(Ljava/lang/Object;)Ljava/lang/Object;"⟩ : MethodName)) hown (mvT hZ (hw _ (List.mem_of_getElem? (i := 47) rfl))) (mvT hZ (hw _ (List.mem_of_getElem? (i := 48) rfl))) (mvT hZ (hw _ (List.mem_of_getElem? (i := 49) rfl))) (mvT hZ (hw _ (List.mem_of_getElem? (i := 50) rfl))) (by decide) (backOf (W := 2) (rm7 l Z a0 hw [] a1 h1 n0 f3) hZ (hw _ (List.mem_of_getElem? (i := 50) rfl)) (hw _ (List.mem_of_getElem? (i := 49) rfl)) (by decide) (by decide)) (g := (mkF m 5 #[.val (.ref a1)] [(.ref a1), (.ref b1), (.ref b1)])) rfl (by rw [hml]; rfl) (argsL := [(.ref a1)]) (rest := [(.ref b1), (.ref b1)]) (lenOf own_pd0 rfl) rfl (by show 2 * 0 + _ ≤ _; exact Nat.le_of_eq rfl) (hb hby d6_5) (fun _ _ => ⟨rfl, e1, (by decide : 1 + 0 ≤ _), (by decide : 1 + 0 ≤ _)⟩)
  dsimp only [Pt.U, Pt.locs, Pt.cells, Pt.slots] at X5 l5 y5 z5 st5 hQ5
  subst l5 y5 z5
  obtain ⟨rfl, N5q, e5⟩ := hQ5
  have N5 := Fr.app N0 N5q
  refine own_go st5 ?_
  show own_G p.tables e below T5 (mkF m 8 #[.val (.ref a1)] [(.ref a1), (.ref b1), (.ref b1)]) _
  obtain ⟨_, _, ⟨T6, L6, k6, n6⟩, -, X6, ⟨Lc6, hQ6, l6, y6, z6⟩, st6⟩ := X5.specialBack hx (y := (⟨"java/util/Optional", "<init>", "(Ljava/lang/Object;)V"⟩ : MethodName)) rfl hown (mvT hZ (hw _ (List.mem_of_getElem? (i := 51) rfl))) (mvT hZ (hw _ (List.mem_of_getElem? (i := 52) rfl))) (mvT hZ (hw _ (List.mem_of_getElem? (i := 54) rfl))) (by decide) (backOf (W := 1) (rm8 l Z a0 hw [] b1 a1 h1 n0 f3 ge_b1 A1 f2) hZ (hw _ (List.mem_of_getElem? (i := 54) rfl)) (hw _ (List.mem_of_getElem? (i := 11) rfl)) (by decide) (by decide)) (g := (mkF m 8 #[.val (.ref a1)] [(.ref a1), (.ref b1), (.ref b1)])) rfl (by rw [hml]; rfl) (Steps.refl _) (a := b1) (argsL := [(.ref a1)]) (rest := [(.ref b1)]) (lenOf own_pd1 rfl) rfl (by show 2 * 0 + _ ≤ _; exact Nat.le_of_eq rfl) (hb hby d6_8) (fun _ _ => ⟨rfl, e5, (by decide : 1 + 0 ≤ _), (by decide : 1 + 0 ≤ _)⟩)
  dsimp only [Pt.U, Pt.locs, Pt.cells, Pt.slots] at X6 l6 y6 z6 st6 hQ6
  subst l6 y6 z6
  obtain ⟨rfl, N6q, K6, Ex6, Fv6⟩ := hQ6
  have N6 := Fr.app N5 N6q
  refine own_go (fun t_ k_ => st6.trans k_) ?_
  show own_G p.tables e below T6 (mkF m 11 #[.val (.ref a1)] [(.ref b1)]) _
  have f7 : Keep h0 T6.heap [] := (f4.trans K6 (allS (Or.inr sz_b1) all0))
  exact own_end (v := some (.ref b1)) X6 Bd.notSynchronized (fun h => by rw [Bd.returns] at h; cases h) (fun fs hr => own_retR X6 hx rfl Bd.returns rfl (hb hby d6_11) hr) rfl ⟨_, rfl, N6, f7, ge_b1, sz_b1, Ex6, Fv6⟩ (by decide) (by decide)
def own_val (q : Int64) (w0 w1 w2 : Addr) : Value := if (0 : Int64) = q then .ref w0 else if (1 : Int64) = q then .ref w1 else if (2 : Int64) = q then .ref w2 else .null
theorem d2_0 : decode prog_28_method_5_code 0 = .ok (.invokestatic 36, 3) := by decide +kernel
theorem d2_3 : decode prog_28_method_5_code 3 = .ok (.astore_n 2, 1) := by decide +kernel
theorem d2_4 : decode prog_28_method_5_code 4 = .ok (.invokestatic 42, 3) := by decide +kernel
theorem d2_7 : decode prog_28_method_5_code 7 = .ok (.astore_n 3, 1) := by decide +kernel
theorem d2_8 : decode prog_28_method_5_code 8 = .ok (.aload_n 3, 1) := by decide +kernel
theorem d2_9 : decode prog_28_method_5_code 9 = .ok (.arraylength, 1) := by decide +kernel
theorem d2_10 : decode prog_28_method_5_code 10 = .ok (.istore 4, 2) := by decide +kernel
theorem d2_12 : decode prog_28_method_5_code 12 = .ok (.iconst 0, 1) := by decide +kernel
theorem d2_13 : decode prog_28_method_5_code 13 = .ok (.istore 5, 2) := by decide +kernel
theorem d2_15 : decode prog_28_method_5_code 15 = .ok (.iload 5, 2) := by decide +kernel
theorem d2_17 : decode prog_28_method_5_code 17 = .ok (.iload 4, 2) := by decide +kernel
theorem d2_19 : decode prog_28_method_5_code 19 = .ok (.if_icmp .ge 32, 3) := by decide +kernel
theorem d2_22 : decode prog_28_method_5_code 22 = .ok (.aload_n 3, 1) := by decide +kernel
theorem d2_23 : decode prog_28_method_5_code 23 = .ok (.iload 5, 2) := by decide +kernel
theorem d2_25 : decode prog_28_method_5_code 25 = .ok (.aaload, 1) := by decide +kernel
theorem d2_26 : decode prog_28_method_5_code 26 = .ok (.astore 6, 2) := by decide +kernel
theorem d2_28 : decode prog_28_method_5_code 28 = .ok (.aload 6, 2) := by decide +kernel
theorem d2_30 : decode prog_28_method_5_code 30 = .ok (.getfield 32, 3) := by decide +kernel
theorem d2_33 : decode prog_28_method_5_code 33 = .ok (.i2l, 1) := by decide +kernel
theorem d2_34 : decode prog_28_method_5_code 34 = .ok (.lload_n 0, 1) := by decide +kernel
theorem d2_35 : decode prog_28_method_5_code 35 = .ok (.lcmp, 1) := by decide +kernel
theorem d2_36 : decode prog_28_method_5_code 36 = .ok (.ifCond .ne 9, 3) := by decide +kernel
theorem d2_39 : decode prog_28_method_5_code 39 = .ok (.aload 6, 2) := by decide +kernel
theorem d2_41 : decode prog_28_method_5_code 41 = .ok (.invokestatic 46, 3) := by decide +kernel
theorem d2_44 : decode prog_28_method_5_code 44 = .ok (.astore_n 2, 1) := by decide +kernel
theorem d2_45 : decode prog_28_method_5_code 45 = .ok (.iinc 5 1, 3) := by decide +kernel
theorem d2_48 : decode prog_28_method_5_code 48 = .ok (.goto (-33), 3) := by decide +kernel
theorem d2_51 : decode prog_28_method_5_code 51 = .ok (.aload_n 2, 1) := by decide +kernel
theorem d2_52 : decode prog_28_method_5_code 52 = .ok (.areturn, 1) := by decide +kernel
theorem ef_2 (m : MethodId) (q1 : Int64) : entryFrame m #[(.long q1)] 7 = mkF m 0 #[.val (.long q1), .second, .unset, .unset, .unset, .unset, .unset] [] := by first | (simp [entryFrame, mkF, argsToLocals, Value.category]; done) | rfl
def Q2 (Z : State) (q1 : Int64) (aV : Addr) (clV : Cell) (w0 w1 w2 aE : Addr) (h0 : Heap) (n0 : Nat) (v : Option Value) (h : Heap) (L : List Loc) : Prop := ∃ o : Addr, v = some (.ref o) ∧ Fr n0 L ∧ Keep h0 h [] ∧ Exa Z h o "java/util/Optional" ∧ Fld Z h o "java/util/Optional" "value" "Ljava/lang/Object;" (own_val q1 w0 w1 w2)
set_option maxRecDepth 65536 in
set_option maxHeartbeats 40000000 in
theorem rm2 (l : Launch) (Z : State) (a0 : Array Value) (hw : ∀ d ∈ tables_1, d.before a0 Z = true) (ws : List Jvm.Cond) (q1 : Int64) (aV : Addr) (clV : Cell) (w0 w1 w2 aE : Addr) (h0 : Heap) (n0 : Nat) (Z0 : n0 ≤ h0.size) (S_V : Sta Z h0 "com/example/atmost1/atmost1/server/UnlockStatus" "$VALUES" "[Lcom/example/atmost1/atmost1/server/UnlockStatus;" (.ref aV)) (A_V : Arr Z h0 aV clV (.object "com/example/atmost1/atmost1/server/UnlockStatus")) (E_V : Exa Z h0 aV "[Lcom/example/atmost1/atmost1/server/UnlockStatus;") (Fit_V : FitC Z clV) (sz_V : clV.slots.size = 3) (l0 : clV.slots[(0 : Int32).toNatClampNeg]? = some (.ref w0)) (l1 : clV.slots[(1 : Int32).toNatClampNeg]? = some (.ref w1)) (l2 : clV.slots[(2 : Int32).toNatClampNeg]? = some (.ref w2)) (F0 : Fld Z h0 w0 "com/example/atmost1/atmost1/server/UnlockStatus" "code" "I" (.int (0 : Int32))) (F1 : Fld Z h0 w1 "com/example/atmost1/atmost1/server/UnlockStatus" "code" "I" (.int (1 : Int32))) (F2 : Fld Z h0 w2 "com/example/atmost1/atmost1/server/UnlockStatus" "code" "I" (.int (2 : Int32))) (S_E : Sta Z h0 "java/util/Optional" "EMPTY" "Ljava/util/Optional;" (.ref aE)) (E_E : Exa Z h0 aE "java/util/Optional") (F_E : Fld Z h0 aE "java/util/Optional" "value" "Ljava/lang/Object;" .null) :
    MetFree l (⟨"com/example/atmost1/atmost1/server/UnlockStatus", "of", "(J)Ljava/util/Optional;"⟩ : MethodName) (head1 (Jvm.Cond.code (⟨"com/example/atmost1/atmost1/server/UnlockStatus", "of", "(J)Ljava/util/Optional;"⟩ : MethodName) prog_28_method_5_code 7 (some (.object "java/util/Optional")) :: ws) ({ frames := 3, cells := 2, slots := 4, locals := 38 } : Room)) (fun a U => a = #[(.long q1)] ∧ Z.Warmed39 U.vm ∧ U.heap = h0) (fun _ _ _ _ _ => True) (fun _ U o U' => ∃ v L, o = .returned v ∧ Q2 Z q1 aV clV w0 w1 w2 aE h0 n0 v U'.heap L ∧ FrameEnd U o U' L ({ frames := 3, cells := 2, slots := 4, locals := 38 } : Room).cells ({ frames := 3, cells := 2, slots := 4, locals := 38 } : Room).slots) := by
  refine MetFree.of_bodySF (plainFor_of_name own_pn1) hisR ?_
  intro p e s m args below meth c s₁ Bd hml0 hP hK
  obtain ⟨rfl, hZ, hh⟩ := hP
  have hx := Bd.exec
  have hby := Bd.bytes
  have hml : c.maxLocals = 7 := hml0
  have hown : s.vm.findClass "com/example/atmost1/atmost1/server/UnlockStatus" = some m.cls := findClass_of_methodNamed Bd.named
  have hnm := (name_of_methodNamed Bd.named Bd.method).1
  have X0 : Stand p l e ({ frames := 3, cells := 2, slots := 4, locals := 38 } : Room) s m #[(.long q1)] below meth c s₁ [] 0 0 := Stand.of_body Bd
  have e0 : s₁.heap = h0 := by rw [← hh, Bd.state]; rfl
  have N0 := Fr.nil n0
  refine own_top (Q := Q2 Z q1 aV clV w0 w1 w2 aE h0 n0) (ef_2 m q1) ?_
  show own_G p.tables e below s₁ (mkF m 0 #[.val (.long q1), .second, .unset, .unset, .unset, .unset, .unset] []) _
  obtain ⟨_, _, ⟨T1, L1, k1, n1⟩, -, X1, ⟨Lc1, hQ1, l1, y1, z1⟩, st1⟩ := Jvm.LawKit.callS X0 hx (y := (⟨"java/util/Optional", "empty", "()Ljava/util/Optional;"⟩ : MethodName)) hown (mvT hZ (hw _ (List.mem_of_getElem? (i := 9) rfl))) (mvT hZ (hw _ (List.mem_of_getElem? (i := 10) rfl))) (mvT hZ (hw _ (List.mem_of_getElem? (i := 11) rfl))) (mvT hZ (hw _ (List.mem_of_getElem? (i := 12) rfl))) (by decide) (backOf (W := 0) (rm3 l Z a0 hw [] aE h0 n0 Z0 S_E) hZ (hw _ (List.mem_of_getElem? (i := 12) rfl)) (hw _ (List.mem_of_getElem? (i := 11) rfl)) (by decide) (by decide)) (g := (mkF m 0 #[.val (.long q1), .second, .unset, .unset, .unset, .unset, .unset] [])) rfl (by rw [hml]; rfl) (argsL := []) (rest := []) (lenOf own_pd2 rfl) rfl (by show 2 * 0 + _ ≤ _; exact Nat.le_of_eq rfl) (hb hby d2_0) (fun _ _ => ⟨rfl, e0, (by decide : 0 + 0 ≤ _), (by decide : 0 + 0 ≤ _)⟩)
  dsimp only [Pt.U, Pt.locs, Pt.cells, Pt.slots] at X1 l1 y1 z1 st1 hQ1
  subst l1 y1 z1
  obtain ⟨rfl, N1q, e1⟩ := hQ1
  have N1 := Fr.app N0 N1q
  refine own_go st1 ?_
  show own_G p.tables e below T1 (mkF m 3 #[.val (.long q1), .second, .unset, .unset, .unset, .unset, .unset] [(.ref aE)]) _
  refine own_go (fun t_ k_ => XS.astoreN X1.here hx rfl (hb hby d2_3) rfl rfl (l' := #[.val (.long q1), .second, .val (.ref aE), .unset, .unset, .unset, .unset]) rfl k_) ?_
  show own_G p.tables e below T1 (mkF m 4 #[.val (.long q1), .second, .val (.ref aE), .unset, .unset, .unset, .unset] []) _
  obtain ⟨_, _, ⟨T2, L2, k2, n2⟩, -, X2, ⟨Lc2, hQ2, l2, y2, z2⟩, st2⟩ := Jvm.LawKit.callS X1 hx (y := (⟨"com/example/atmost1/atmost1/server/UnlockStatus", "values", "()[Lcom/example/atmost1/atmost1/server/UnlockStatus;"⟩ : MethodName)) hown (mvT hZ (hw _ (List.mem_of_getElem? (i := 14) rfl))) (mvT hZ (hw _ (List.mem_of_getElem? (i := 15) rfl))) (mvT hZ (hw _ (List.mem_of_getElem? (i := 7) rfl))) (mvT hZ (hw _ (List.mem_of_getElem? (i := 16) rfl))) (by decide) (backOf (W := 0) (rm4 l Z a0 hw [] aV clV h0 n0 Z0 S_V A_V E_V Fit_V sz_V) hZ (hw _ (List.mem_of_getElem? (i := 16) rfl)) (hw _ (List.mem_of_getElem? (i := 7) rfl)) (by decide) (by decide)) (g := (mkF m 4 #[.val (.long q1), .second, .val (.ref aE), .unset, .unset, .unset, .unset] [])) rfl (by rw [hml]; rfl) (argsL := []) (rest := []) (lenOf own_pd3 rfl) rfl (by show 2 * 0 + _ ≤ _; exact Nat.le_of_eq rfl) (hb hby d2_4) (fun _ _ => ⟨rfl, e1, (by decide : 0 + 1 ≤ _), (by decide : 0 + 3 ≤ _)⟩)
  dsimp only [Pt.U, Pt.locs, Pt.cells, Pt.slots] at X2 l2 y2 z2 st2 hQ2
  subst l2 y2 z2
  obtain ⟨b2, rfl, N2q, K2, gb2, sb2, Ab2⟩ := hQ2
  have N2 := Fr.app N1 N2q
  refine own_go st2 ?_
  show own_G p.tables e below T2 (mkF m 7 #[.val (.long q1), .second, .val (.ref aE), .unset, .unset, .unset, .unset] [(.ref b2)]) _
  refine own_go (fun t_ k_ => XS.astoreN X2.here hx rfl (hb hby d2_7) rfl rfl (l' := #[.val (.long q1), .second, .val (.ref aE), .val (.ref b2), .unset, .unset, .unset]) rfl k_) ?_
  show own_G p.tables e below T2 (mkF m 8 #[.val (.long q1), .second, .val (.ref aE), .val (.ref b2), .unset, .unset, .unset] []) _
  refine own_go (fun t_ k_ => XS.aloadN X2.here hx rfl (hb hby d2_8) rfl rfl k_) ?_
  show own_G p.tables e below T2 (mkF m 9 #[.val (.long q1), .second, .val (.ref aE), .val (.ref b2), .unset, .unset, .unset] [(.ref b2)]) _
  refine own_go (fun t_ k_ => X2.arraylength hx Ab2.1 (State.isArrayOf_alike hZ.alike Ab2.2.1) (g := (mkF m 9 #[.val (.long q1), .second, .val (.ref aE), .val (.ref b2), .unset, .unset, .unset] [(.ref b2)])) rfl rfl (hb hby d2_9) _ k_) ?_
  show own_G p.tables e below T2 (mkF m 10 #[.val (.long q1), .second, .val (.ref aE), .val (.ref b2), .unset, .unset, .unset] [(.int (cloneOf clV).slots.size.toInt32)]) _
  rw [show (cloneOf clV).slots.size.toInt32 = 3 by show clV.slots.size.toInt32 = 3; rw [sz_V]; rfl]
  show own_G p.tables e below T2 (mkF m 10 #[.val (.long q1), .second, .val (.ref aE), .val (.ref b2), .unset, .unset, .unset] [(.int (3 : Int32))]) _
  refine own_go (fun t_ k_ => XS.istore X2.here hx rfl (hb hby d2_10) rfl (l' := #[.val (.long q1), .second, .val (.ref aE), .val (.ref b2), .val (.int (3 : Int32)), .unset, .unset]) rfl k_) ?_
  show own_G p.tables e below T2 (mkF m 12 #[.val (.long q1), .second, .val (.ref aE), .val (.ref b2), .val (.int (3 : Int32)), .unset, .unset] []) _
  refine own_go (fun t_ k_ => XS.iconst X2.here hx rfl (hb hby d2_12) k_) ?_
  show own_G p.tables e below T2 (mkF m 13 #[.val (.long q1), .second, .val (.ref aE), .val (.ref b2), .val (.int (3 : Int32)), .unset, .unset] [(.int (0 : Int32))]) _
  refine own_go (fun t_ k_ => XS.istore X2.here hx rfl (hb hby d2_13) rfl (l' := #[.val (.long q1), .second, .val (.ref aE), .val (.ref b2), .val (.int (3 : Int32)), .val (.int (0 : Int32)), .unset]) rfl k_) ?_
  show own_G p.tables e below T2 (mkF m 15 #[.val (.long q1), .second, .val (.ref aE), .val (.ref b2), .val (.int (3 : Int32)), .val (.int (0 : Int32)), .unset] []) _
  refine own_go (fun t_ k_ => XS.iload X2.here hx rfl (hb hby d2_15) rfl k_) ?_
  show own_G p.tables e below T2 (mkF m 17 #[.val (.long q1), .second, .val (.ref aE), .val (.ref b2), .val (.int (3 : Int32)), .val (.int (0 : Int32)), .unset] [(.int (0 : Int32))]) _
  refine own_go (fun t_ k_ => XS.iload X2.here hx rfl (hb hby d2_17) rfl k_) ?_
  show own_G p.tables e below T2 (mkF m 19 #[.val (.long q1), .second, .val (.ref aE), .val (.ref b2), .val (.int (3 : Int32)), .val (.int (0 : Int32)), .unset] [(.int (3 : Int32)), (.int (0 : Int32))]) _
  refine own_go (fun t_ k_ => XS.icmpNo X2.here hx rfl (hb hby d2_19) rfl (tlt (by decide : ((0 : Int32) < (3 : Int32)))).2.1 k_) ?_
  show own_G p.tables e below T2 (mkF m 22 #[.val (.long q1), .second, .val (.ref aE), .val (.ref b2), .val (.int (3 : Int32)), .val (.int (0 : Int32)), .unset] []) _
  refine own_go (fun t_ k_ => XS.aloadN X2.here hx rfl (hb hby d2_22) rfl rfl k_) ?_
  show own_G p.tables e below T2 (mkF m 23 #[.val (.long q1), .second, .val (.ref aE), .val (.ref b2), .val (.int (3 : Int32)), .val (.int (0 : Int32)), .unset] [(.ref b2)]) _
  refine own_go (fun t_ k_ => XS.iload X2.here hx rfl (hb hby d2_23) rfl k_) ?_
  show own_G p.tables e below T2 (mkF m 25 #[.val (.long q1), .second, .val (.ref aE), .val (.ref b2), .val (.int (3 : Int32)), .val (.int (0 : Int32)), .unset] [(.int (0 : Int32)), (.ref b2)]) _
  refine own_go (fun t_ k_ => X2.aaload hx (j := (0 : Int32)) (v := (.ref w0)) Ab2.1 (State.isArrayOf_alike hZ.alike Ab2.2.1) rfl Ab2.2.2 (by show ¬ ((0 : Int32) < 0 ∨ clV.slots.size ≤ (0 : Int32).toNatClampNeg); rw [sz_V]; decide) l0 (g := (mkF m 25 #[.val (.long q1), .second, .val (.ref aE), .val (.ref b2), .val (.int (3 : Int32)), .val (.int (0 : Int32)), .unset] [(.int (0 : Int32)), (.ref b2)])) rfl rfl (hb hby d2_25) _ k_) ?_
  show own_G p.tables e below T2 (mkF m 26 #[.val (.long q1), .second, .val (.ref aE), .val (.ref b2), .val (.int (3 : Int32)), .val (.int (0 : Int32)), .unset] [(.ref w0)]) _
  refine own_go (fun t_ k_ => XS.astore X2.here hx rfl (hb hby d2_26) rfl rfl (l' := #[.val (.long q1), .second, .val (.ref aE), .val (.ref b2), .val (.int (3 : Int32)), .val (.int (0 : Int32)), .val (.ref w0)]) rfl k_) ?_
  show own_G p.tables e below T2 (mkF m 28 #[.val (.long q1), .second, .val (.ref aE), .val (.ref b2), .val (.int (3 : Int32)), .val (.int (0 : Int32)), .val (.ref w0)] []) _
  refine own_go (fun t_ k_ => XS.aload X2.here hx rfl (hb hby d2_28) rfl rfl k_) ?_
  show own_G p.tables e below T2 (mkF m 30 #[.val (.long q1), .second, .val (.ref aE), .val (.ref b2), .val (.int (3 : Int32)), .val (.int (0 : Int32)), .val (.ref w0)] [(.ref w0)]) _
  have f3 : Fld Z T2.heap w0 "com/example/atmost1/atmost1/server/UnlockStatus" "code" "I" (.int (0 : Int32)) := (F0.keep K2 List.not_mem_nil)
  obtain ⟨T4, X4, e4, st4⟩ := getF X2 hx hZ hown (host := "") (Or.inl (hw _ (List.mem_of_getElem? (i := 32) rfl))) Via.refl rfl f3 (g := (mkF m 30 #[.val (.long q1), .second, .val (.ref aE), .val (.ref b2), .val (.int (3 : Int32)), .val (.int (0 : Int32)), .val (.ref w0)] [(.ref w0)])) rfl rfl (hb hby d2_30)
  refine own_go st4 ?_
  show own_G p.tables e below T4 (mkF m 33 #[.val (.long q1), .second, .val (.ref aE), .val (.ref b2), .val (.int (3 : Int32)), .val (.int (0 : Int32)), .val (.ref w0)] [(.int (0 : Int32))]) _
  refine own_go (fun t_ k_ => XS.i2l X4.here hx rfl (hb hby d2_33) rfl k_) ?_
  show own_G p.tables e below T4 (mkF m 34 #[.val (.long q1), .second, .val (.ref aE), .val (.ref b2), .val (.int (3 : Int32)), .val (.int (0 : Int32)), .val (.ref w0)] [(.long (0 : Int64))]) _
  refine own_go (fun t_ k_ => XS.lloadN X4.here hx rfl (hb hby d2_34) rfl k_) ?_
  show own_G p.tables e below T4 (mkF m 35 #[.val (.long q1), .second, .val (.ref aE), .val (.ref b2), .val (.int (3 : Int32)), .val (.int (0 : Int32)), .val (.ref w0)] [(.long q1), (.long (0 : Int64))]) _
  refine own_go (fun t_ k_ => XS.lcmp X4.here hx rfl (hb hby d2_35) rfl k_) ?_
  show own_G p.tables e below T4 (mkF m 36 #[.val (.long q1), .second, .val (.ref aE), .val (.ref b2), .val (.int (3 : Int32)), .val (.int (0 : Int32)), .val (.ref w0)] [(.int (lcmpW (0 : Int64) q1))]) _
  by_cases hc36_5 : (0 : Int64) = q1
  · skip
    refine own_go (fun t_ k_ => XS.ifNo X4.here hx rfl (hb hby d2_36) rfl ((if0 _ _).trans (teq ((lw_eq (0 : Int64) q1).mpr hc36_5)).2) k_) ?_
    show own_G p.tables e below T4 (mkF m 39 #[.val (.long q1), .second, .val (.ref aE), .val (.ref b2), .val (.int (3 : Int32)), .val (.int (0 : Int32)), .val (.ref w0)] []) _
    refine own_go (fun t_ k_ => XS.aload X4.here hx rfl (hb hby d2_39) rfl rfl k_) ?_
    show own_G p.tables e below T4 (mkF m 41 #[.val (.long q1), .second, .val (.ref aE), .val (.ref b2), .val (.int (3 : Int32)), .val (.int (0 : Int32)), .val (.ref w0)] [(.ref w0)]) _
    have f6 : n0 ≤ T2.heap.size := (Nat.le_trans Z0 K2.1)
    have f7 : Keep h0 T2.heap [] := ((Keep.refl h0 []).trans K2 all0)
    have f8 : Exa Z T2.heap aE "java/util/Optional" := (E_E.keep K2)
    have f9 : Fld Z T2.heap aE "java/util/Optional" "value" "Ljava/lang/Object;" .null := (F_E.keep K2 List.not_mem_nil)
    have f10 : Fld Z T2.heap w1 "com/example/atmost1/atmost1/server/UnlockStatus" "code" "I" (.int (1 : Int32)) := (F1.keep K2 List.not_mem_nil)
    have f11 : Fld Z T2.heap w2 "com/example/atmost1/atmost1/server/UnlockStatus" "code" "I" (.int (2 : Int32)) := (F2.keep K2 List.not_mem_nil)
    obtain ⟨_, _, ⟨T12, L12, k12, n12⟩, -, X12, ⟨Lc12, hQ12, l12, y12, z12⟩, st12⟩ := Jvm.LawKit.callS X4 hx (y := (⟨"java/util/Optional", "of", "(Ljava/lang/Object;)Ljava/util/Optional;"⟩ : MethodName)) hown (mvT hZ (hw _ (List.mem_of_getElem? (i := 42) rfl))) (mvT hZ (hw _ (List.mem_of_getElem? (i := 43) rfl))) (mvT hZ (hw _ (List.mem_of_getElem? (i := 11) rfl))) (mvT hZ (hw _ (List.mem_of_getElem? (i := 44) rfl))) (by decide) (backOf (W := 0) (rm6 l Z a0 hw [] w0 T2.heap n0 f6) hZ (hw _ (List.mem_of_getElem? (i := 44) rfl)) (hw _ (List.mem_of_getElem? (i := 11) rfl)) (by decide) (by decide)) (g := (mkF m 41 #[.val (.long q1), .second, .val (.ref aE), .val (.ref b2), .val (.int (3 : Int32)), .val (.int (0 : Int32)), .val (.ref w0)] [(.ref w0)])) rfl (by rw [hml]; rfl) (argsL := [(.ref w0)]) (rest := []) (lenOf own_pd4 rfl) rfl (by show 2 * 0 + _ ≤ _; exact Nat.le_of_eq rfl) (hb hby d2_41) (fun _ _ => ⟨rfl, e4, (by decide : 1 + 1 ≤ _), (by decide : 3 + 1 ≤ _)⟩)
    dsimp only [Pt.U, Pt.locs, Pt.cells, Pt.slots] at X12 l12 y12 z12 st12 hQ12
    subst l12 y12 z12
    obtain ⟨o12, rfl, N12q, K12, go12, so12, Eo12, Fo12⟩ := hQ12
    have N12 := Fr.app N2 N12q
    refine own_go st12 ?_
    show own_G p.tables e below T12 (mkF m 44 #[.val (.long q1), .second, .val (.ref aE), .val (.ref b2), .val (.int (3 : Int32)), .val (.int (0 : Int32)), .val (.ref w0)] [(.ref o12)]) _
    refine own_go (fun t_ k_ => XS.astoreN X12.here hx rfl (hb hby d2_44) rfl rfl (l' := #[.val (.long q1), .second, .val (.ref o12), .val (.ref b2), .val (.int (3 : Int32)), .val (.int (0 : Int32)), .val (.ref w0)]) rfl k_) ?_
    show own_G p.tables e below T12 (mkF m 45 #[.val (.long q1), .second, .val (.ref o12), .val (.ref b2), .val (.int (3 : Int32)), .val (.int (0 : Int32)), .val (.ref w0)] []) _
    refine own_go (fun t_ k_ => XS.iinc X12.here hx rfl (hb hby d2_45) rfl (l' := #[.val (.long q1), .second, .val (.ref o12), .val (.ref b2), .val (.int (3 : Int32)), .val (.int (1 : Int32)), .val (.ref w0)]) rfl k_) ?_
    show own_G p.tables e below T12 (mkF m 48 #[.val (.long q1), .second, .val (.ref o12), .val (.ref b2), .val (.int (3 : Int32)), .val (.int (1 : Int32)), .val (.ref w0)] []) _
    refine own_go (fun t_ k_ => XS.goto X12.here hx rfl (pc0 := 48) (pc' := 15) rfl (hb hby d2_48) (by decide) (by decide) k_) ?_
    show own_G p.tables e below T12 (mkF m 15 #[.val (.long q1), .second, .val (.ref o12), .val (.ref b2), .val (.int (3 : Int32)), .val (.int (1 : Int32)), .val (.ref w0)] []) _
    refine own_go (fun t_ k_ => XS.iload X12.here hx rfl (hb hby d2_15) rfl k_) ?_
    show own_G p.tables e below T12 (mkF m 17 #[.val (.long q1), .second, .val (.ref o12), .val (.ref b2), .val (.int (3 : Int32)), .val (.int (1 : Int32)), .val (.ref w0)] [(.int (1 : Int32))]) _
    refine own_go (fun t_ k_ => XS.iload X12.here hx rfl (hb hby d2_17) rfl k_) ?_
    show own_G p.tables e below T12 (mkF m 19 #[.val (.long q1), .second, .val (.ref o12), .val (.ref b2), .val (.int (3 : Int32)), .val (.int (1 : Int32)), .val (.ref w0)] [(.int (3 : Int32)), (.int (1 : Int32))]) _
    refine own_go (fun t_ k_ => XS.icmpNo X12.here hx rfl (hb hby d2_19) rfl (tlt (by decide : ((1 : Int32) < (3 : Int32)))).2.1 k_) ?_
    show own_G p.tables e below T12 (mkF m 22 #[.val (.long q1), .second, .val (.ref o12), .val (.ref b2), .val (.int (3 : Int32)), .val (.int (1 : Int32)), .val (.ref w0)] []) _
    refine own_go (fun t_ k_ => XS.aloadN X12.here hx rfl (hb hby d2_22) rfl rfl k_) ?_
    show own_G p.tables e below T12 (mkF m 23 #[.val (.long q1), .second, .val (.ref o12), .val (.ref b2), .val (.int (3 : Int32)), .val (.int (1 : Int32)), .val (.ref w0)] [(.ref b2)]) _
    refine own_go (fun t_ k_ => XS.iload X12.here hx rfl (hb hby d2_23) rfl k_) ?_
    show own_G p.tables e below T12 (mkF m 25 #[.val (.long q1), .second, .val (.ref o12), .val (.ref b2), .val (.int (3 : Int32)), .val (.int (1 : Int32)), .val (.ref w0)] [(.int (1 : Int32)), (.ref b2)]) _
    have f13 : Arr Z T12.heap b2 (cloneOf clV) (.object "com/example/atmost1/atmost1/server/UnlockStatus") := (own_ak Ab2 K12)
    refine own_go (fun t_ k_ => X12.aaload hx (j := (1 : Int32)) (v := (.ref w1)) f13.1 (State.isArrayOf_alike hZ.alike f13.2.1) rfl f13.2.2 (by show ¬ ((1 : Int32) < 0 ∨ clV.slots.size ≤ (1 : Int32).toNatClampNeg); rw [sz_V]; decide) l1 (g := (mkF m 25 #[.val (.long q1), .second, .val (.ref o12), .val (.ref b2), .val (.int (3 : Int32)), .val (.int (1 : Int32)), .val (.ref w0)] [(.int (1 : Int32)), (.ref b2)])) rfl rfl (hb hby d2_25) _ k_) ?_
    show own_G p.tables e below T12 (mkF m 26 #[.val (.long q1), .second, .val (.ref o12), .val (.ref b2), .val (.int (3 : Int32)), .val (.int (1 : Int32)), .val (.ref w0)] [(.ref w1)]) _
    refine own_go (fun t_ k_ => XS.astore X12.here hx rfl (hb hby d2_26) rfl rfl (l' := #[.val (.long q1), .second, .val (.ref o12), .val (.ref b2), .val (.int (3 : Int32)), .val (.int (1 : Int32)), .val (.ref w1)]) rfl k_) ?_
    show own_G p.tables e below T12 (mkF m 28 #[.val (.long q1), .second, .val (.ref o12), .val (.ref b2), .val (.int (3 : Int32)), .val (.int (1 : Int32)), .val (.ref w1)] []) _
    refine own_go (fun t_ k_ => XS.aload X12.here hx rfl (hb hby d2_28) rfl rfl k_) ?_
    show own_G p.tables e below T12 (mkF m 30 #[.val (.long q1), .second, .val (.ref o12), .val (.ref b2), .val (.int (3 : Int32)), .val (.int (1 : Int32)), .val (.ref w1)] [(.ref w1)]) _
    have f14 : Fld Z T12.heap w1 "com/example/atmost1/atmost1/server/UnlockStatus" "code" "I" (.int (1 : Int32)) := (f10.keep K12 List.not_mem_nil)
    obtain ⟨T15, X15, e15, st15⟩ := getF X12 hx hZ hown (host := "") (Or.inl (hw _ (List.mem_of_getElem? (i := 32) rfl))) Via.refl rfl f14 (g := (mkF m 30 #[.val (.long q1), .second, .val (.ref o12), .val (.ref b2), .val (.int (3 : Int32)), .val (.int (1 : Int32)), .val (.ref w1)] [(.ref w1)])) rfl rfl (hb hby d2_30)
    refine own_go st15 ?_
    show own_G p.tables e below T15 (mkF m 33 #[.val (.long q1), .second, .val (.ref o12), .val (.ref b2), .val (.int (3 : Int32)), .val (.int (1 : Int32)), .val (.ref w1)] [(.int (1 : Int32))]) _
    refine own_go (fun t_ k_ => XS.i2l X15.here hx rfl (hb hby d2_33) rfl k_) ?_
    show own_G p.tables e below T15 (mkF m 34 #[.val (.long q1), .second, .val (.ref o12), .val (.ref b2), .val (.int (3 : Int32)), .val (.int (1 : Int32)), .val (.ref w1)] [(.long (1 : Int64))]) _
    refine own_go (fun t_ k_ => XS.lloadN X15.here hx rfl (hb hby d2_34) rfl k_) ?_
    show own_G p.tables e below T15 (mkF m 35 #[.val (.long q1), .second, .val (.ref o12), .val (.ref b2), .val (.int (3 : Int32)), .val (.int (1 : Int32)), .val (.ref w1)] [(.long q1), (.long (1 : Int64))]) _
    refine own_go (fun t_ k_ => XS.lcmp X15.here hx rfl (hb hby d2_35) rfl k_) ?_
    show own_G p.tables e below T15 (mkF m 36 #[.val (.long q1), .second, .val (.ref o12), .val (.ref b2), .val (.int (3 : Int32)), .val (.int (1 : Int32)), .val (.ref w1)] [(.int (lcmpW (1 : Int64) q1))]) _
    refine own_go (fun t_ k_ => XS.ifYes X15.here hx rfl (pc0 := 36) (pc' := 45) rfl (hb hby d2_36) rfl ((if0 _ _).trans (feq (mt (lw_eq (1 : Int64) q1).mp (fun q => absurd (hc36_5.trans q.symm) (by decide)))).2) (by decide) (by decide) k_) ?_
    show own_G p.tables e below T15 (mkF m 45 #[.val (.long q1), .second, .val (.ref o12), .val (.ref b2), .val (.int (3 : Int32)), .val (.int (1 : Int32)), .val (.ref w1)] []) _
    refine own_go (fun t_ k_ => XS.iinc X15.here hx rfl (hb hby d2_45) rfl (l' := #[.val (.long q1), .second, .val (.ref o12), .val (.ref b2), .val (.int (3 : Int32)), .val (.int (2 : Int32)), .val (.ref w1)]) rfl k_) ?_
    show own_G p.tables e below T15 (mkF m 48 #[.val (.long q1), .second, .val (.ref o12), .val (.ref b2), .val (.int (3 : Int32)), .val (.int (2 : Int32)), .val (.ref w1)] []) _
    refine own_go (fun t_ k_ => XS.goto X15.here hx rfl (pc0 := 48) (pc' := 15) rfl (hb hby d2_48) (by decide) (by decide) k_) ?_
    show own_G p.tables e below T15 (mkF m 15 #[.val (.long q1), .second, .val (.ref o12), .val (.ref b2), .val (.int (3 : Int32)), .val (.int (2 : Int32)), .val (.ref w1)] []) _
    refine own_go (fun t_ k_ => XS.iload X15.here hx rfl (hb hby d2_15) rfl k_) ?_
    show own_G p.tables e below T15 (mkF m 17 #[.val (.long q1), .second, .val (.ref o12), .val (.ref b2), .val (.int (3 : Int32)), .val (.int (2 : Int32)), .val (.ref w1)] [(.int (2 : Int32))]) _
    refine own_go (fun t_ k_ => XS.iload X15.here hx rfl (hb hby d2_17) rfl k_) ?_
    show own_G p.tables e below T15 (mkF m 19 #[.val (.long q1), .second, .val (.ref o12), .val (.ref b2), .val (.int (3 : Int32)), .val (.int (2 : Int32)), .val (.ref w1)] [(.int (3 : Int32)), (.int (2 : Int32))]) _
    refine own_go (fun t_ k_ => XS.icmpNo X15.here hx rfl (hb hby d2_19) rfl (tlt (by decide : ((2 : Int32) < (3 : Int32)))).2.1 k_) ?_
    show own_G p.tables e below T15 (mkF m 22 #[.val (.long q1), .second, .val (.ref o12), .val (.ref b2), .val (.int (3 : Int32)), .val (.int (2 : Int32)), .val (.ref w1)] []) _
    refine own_go (fun t_ k_ => XS.aloadN X15.here hx rfl (hb hby d2_22) rfl rfl k_) ?_
    show own_G p.tables e below T15 (mkF m 23 #[.val (.long q1), .second, .val (.ref o12), .val (.ref b2), .val (.int (3 : Int32)), .val (.int (2 : Int32)), .val (.ref w1)] [(.ref b2)]) _
    refine own_go (fun t_ k_ => XS.iload X15.here hx rfl (hb hby d2_23) rfl k_) ?_
    show own_G p.tables e below T15 (mkF m 25 #[.val (.long q1), .second, .val (.ref o12), .val (.ref b2), .val (.int (3 : Int32)), .val (.int (2 : Int32)), .val (.ref w1)] [(.int (2 : Int32)), (.ref b2)]) _
    refine own_go (fun t_ k_ => X15.aaload hx (j := (2 : Int32)) (v := (.ref w2)) (by rw [e15]; exact f13.1) (State.isArrayOf_alike hZ.alike f13.2.1) rfl f13.2.2 (by show ¬ ((2 : Int32) < 0 ∨ clV.slots.size ≤ (2 : Int32).toNatClampNeg); rw [sz_V]; decide) l2 (g := (mkF m 25 #[.val (.long q1), .second, .val (.ref o12), .val (.ref b2), .val (.int (3 : Int32)), .val (.int (2 : Int32)), .val (.ref w1)] [(.int (2 : Int32)), (.ref b2)])) rfl rfl (hb hby d2_25) _ k_) ?_
    show own_G p.tables e below T15 (mkF m 26 #[.val (.long q1), .second, .val (.ref o12), .val (.ref b2), .val (.int (3 : Int32)), .val (.int (2 : Int32)), .val (.ref w1)] [(.ref w2)]) _
    refine own_go (fun t_ k_ => XS.astore X15.here hx rfl (hb hby d2_26) rfl rfl (l' := #[.val (.long q1), .second, .val (.ref o12), .val (.ref b2), .val (.int (3 : Int32)), .val (.int (2 : Int32)), .val (.ref w2)]) rfl k_) ?_
    show own_G p.tables e below T15 (mkF m 28 #[.val (.long q1), .second, .val (.ref o12), .val (.ref b2), .val (.int (3 : Int32)), .val (.int (2 : Int32)), .val (.ref w2)] []) _
    refine own_go (fun t_ k_ => XS.aload X15.here hx rfl (hb hby d2_28) rfl rfl k_) ?_
    show own_G p.tables e below T15 (mkF m 30 #[.val (.long q1), .second, .val (.ref o12), .val (.ref b2), .val (.int (3 : Int32)), .val (.int (2 : Int32)), .val (.ref w2)] [(.ref w2)]) _
    have f16 : Fld Z T12.heap w2 "com/example/atmost1/atmost1/server/UnlockStatus" "code" "I" (.int (2 : Int32)) := (f11.keep K12 List.not_mem_nil)
    obtain ⟨T17, X17, e17, st17⟩ := getF X15 hx hZ hown (host := "") (Or.inl (hw _ (List.mem_of_getElem? (i := 32) rfl))) Via.refl e15 f16 (g := (mkF m 30 #[.val (.long q1), .second, .val (.ref o12), .val (.ref b2), .val (.int (3 : Int32)), .val (.int (2 : Int32)), .val (.ref w2)] [(.ref w2)])) rfl rfl (hb hby d2_30)
    refine own_go st17 ?_
    show own_G p.tables e below T17 (mkF m 33 #[.val (.long q1), .second, .val (.ref o12), .val (.ref b2), .val (.int (3 : Int32)), .val (.int (2 : Int32)), .val (.ref w2)] [(.int (2 : Int32))]) _
    refine own_go (fun t_ k_ => XS.i2l X17.here hx rfl (hb hby d2_33) rfl k_) ?_
    show own_G p.tables e below T17 (mkF m 34 #[.val (.long q1), .second, .val (.ref o12), .val (.ref b2), .val (.int (3 : Int32)), .val (.int (2 : Int32)), .val (.ref w2)] [(.long (2 : Int64))]) _
    refine own_go (fun t_ k_ => XS.lloadN X17.here hx rfl (hb hby d2_34) rfl k_) ?_
    show own_G p.tables e below T17 (mkF m 35 #[.val (.long q1), .second, .val (.ref o12), .val (.ref b2), .val (.int (3 : Int32)), .val (.int (2 : Int32)), .val (.ref w2)] [(.long q1), (.long (2 : Int64))]) _
    refine own_go (fun t_ k_ => XS.lcmp X17.here hx rfl (hb hby d2_35) rfl k_) ?_
    show own_G p.tables e below T17 (mkF m 36 #[.val (.long q1), .second, .val (.ref o12), .val (.ref b2), .val (.int (3 : Int32)), .val (.int (2 : Int32)), .val (.ref w2)] [(.int (lcmpW (2 : Int64) q1))]) _
    refine own_go (fun t_ k_ => XS.ifYes X17.here hx rfl (pc0 := 36) (pc' := 45) rfl (hb hby d2_36) rfl ((if0 _ _).trans (feq (mt (lw_eq (2 : Int64) q1).mp (fun q => absurd (hc36_5.trans q.symm) (by decide)))).2) (by decide) (by decide) k_) ?_
    show own_G p.tables e below T17 (mkF m 45 #[.val (.long q1), .second, .val (.ref o12), .val (.ref b2), .val (.int (3 : Int32)), .val (.int (2 : Int32)), .val (.ref w2)] []) _
    refine own_go (fun t_ k_ => XS.iinc X17.here hx rfl (hb hby d2_45) rfl (l' := #[.val (.long q1), .second, .val (.ref o12), .val (.ref b2), .val (.int (3 : Int32)), .val (.int (3 : Int32)), .val (.ref w2)]) rfl k_) ?_
    show own_G p.tables e below T17 (mkF m 48 #[.val (.long q1), .second, .val (.ref o12), .val (.ref b2), .val (.int (3 : Int32)), .val (.int (3 : Int32)), .val (.ref w2)] []) _
    refine own_go (fun t_ k_ => XS.goto X17.here hx rfl (pc0 := 48) (pc' := 15) rfl (hb hby d2_48) (by decide) (by decide) k_) ?_
    show own_G p.tables e below T17 (mkF m 15 #[.val (.long q1), .second, .val (.ref o12), .val (.ref b2), .val (.int (3 : Int32)), .val (.int (3 : Int32)), .val (.ref w2)] []) _
    refine own_go (fun t_ k_ => XS.iload X17.here hx rfl (hb hby d2_15) rfl k_) ?_
    show own_G p.tables e below T17 (mkF m 17 #[.val (.long q1), .second, .val (.ref o12), .val (.ref b2), .val (.int (3 : Int32)), .val (.int (3 : Int32)), .val (.ref w2)] [(.int (3 : Int32))]) _
    refine own_go (fun t_ k_ => XS.iload X17.here hx rfl (hb hby d2_17) rfl k_) ?_
    show own_G p.tables e below T17 (mkF m 19 #[.val (.long q1), .second, .val (.ref o12), .val (.ref b2), .val (.int (3 : Int32)), .val (.int (3 : Int32)), .val (.ref w2)] [(.int (3 : Int32)), (.int (3 : Int32))]) _
    refine own_go (fun t_ k_ => XS.icmpYes X17.here hx rfl (pc0 := 19) (pc' := 51) rfl (hb hby d2_19) rfl (flt (by decide : ¬ ((3 : Int32) < (3 : Int32)))).2.1 (by decide) (by decide) k_) ?_
    show own_G p.tables e below T17 (mkF m 51 #[.val (.long q1), .second, .val (.ref o12), .val (.ref b2), .val (.int (3 : Int32)), .val (.int (3 : Int32)), .val (.ref w2)] []) _
    refine own_go (fun t_ k_ => XS.aloadN X17.here hx rfl (hb hby d2_51) rfl rfl k_) ?_
    show own_G p.tables e below T17 (mkF m 52 #[.val (.long q1), .second, .val (.ref o12), .val (.ref b2), .val (.int (3 : Int32)), .val (.int (3 : Int32)), .val (.ref w2)] [(.ref o12)]) _
    have f18 : Keep h0 T12.heap [] := (f7.trans K12 all0)
    exact own_end (v := some (.ref o12)) X17 Bd.notSynchronized (fun h => by rw [Bd.returns] at h; cases h) (fun fs hr => own_retR X17 hx rfl Bd.returns rfl (hb hby d2_52) hr) e17 ⟨_, rfl, N12, f18, Eo12, (by unfold own_val; rw [if_pos hc36_5]; exact Fo12)⟩ (by decide) (by decide)
  · skip
    refine own_go (fun t_ k_ => XS.ifYes X4.here hx rfl (pc0 := 36) (pc' := 45) rfl (hb hby d2_36) rfl ((if0 _ _).trans (feq (mt (lw_eq (0 : Int64) q1).mp hc36_5)).2) (by decide) (by decide) k_) ?_
    show own_G p.tables e below T4 (mkF m 45 #[.val (.long q1), .second, .val (.ref aE), .val (.ref b2), .val (.int (3 : Int32)), .val (.int (0 : Int32)), .val (.ref w0)] []) _
    refine own_go (fun t_ k_ => XS.iinc X4.here hx rfl (hb hby d2_45) rfl (l' := #[.val (.long q1), .second, .val (.ref aE), .val (.ref b2), .val (.int (3 : Int32)), .val (.int (1 : Int32)), .val (.ref w0)]) rfl k_) ?_
    show own_G p.tables e below T4 (mkF m 48 #[.val (.long q1), .second, .val (.ref aE), .val (.ref b2), .val (.int (3 : Int32)), .val (.int (1 : Int32)), .val (.ref w0)] []) _
    refine own_go (fun t_ k_ => XS.goto X4.here hx rfl (pc0 := 48) (pc' := 15) rfl (hb hby d2_48) (by decide) (by decide) k_) ?_
    show own_G p.tables e below T4 (mkF m 15 #[.val (.long q1), .second, .val (.ref aE), .val (.ref b2), .val (.int (3 : Int32)), .val (.int (1 : Int32)), .val (.ref w0)] []) _
    refine own_go (fun t_ k_ => XS.iload X4.here hx rfl (hb hby d2_15) rfl k_) ?_
    show own_G p.tables e below T4 (mkF m 17 #[.val (.long q1), .second, .val (.ref aE), .val (.ref b2), .val (.int (3 : Int32)), .val (.int (1 : Int32)), .val (.ref w0)] [(.int (1 : Int32))]) _
    refine own_go (fun t_ k_ => XS.iload X4.here hx rfl (hb hby d2_17) rfl k_) ?_
    show own_G p.tables e below T4 (mkF m 19 #[.val (.long q1), .second, .val (.ref aE), .val (.ref b2), .val (.int (3 : Int32)), .val (.int (1 : Int32)), .val (.ref w0)] [(.int (3 : Int32)), (.int (1 : Int32))]) _
    refine own_go (fun t_ k_ => XS.icmpNo X4.here hx rfl (hb hby d2_19) rfl (tlt (by decide : ((1 : Int32) < (3 : Int32)))).2.1 k_) ?_
    show own_G p.tables e below T4 (mkF m 22 #[.val (.long q1), .second, .val (.ref aE), .val (.ref b2), .val (.int (3 : Int32)), .val (.int (1 : Int32)), .val (.ref w0)] []) _
    refine own_go (fun t_ k_ => XS.aloadN X4.here hx rfl (hb hby d2_22) rfl rfl k_) ?_
    show own_G p.tables e below T4 (mkF m 23 #[.val (.long q1), .second, .val (.ref aE), .val (.ref b2), .val (.int (3 : Int32)), .val (.int (1 : Int32)), .val (.ref w0)] [(.ref b2)]) _
    refine own_go (fun t_ k_ => XS.iload X4.here hx rfl (hb hby d2_23) rfl k_) ?_
    show own_G p.tables e below T4 (mkF m 25 #[.val (.long q1), .second, .val (.ref aE), .val (.ref b2), .val (.int (3 : Int32)), .val (.int (1 : Int32)), .val (.ref w0)] [(.int (1 : Int32)), (.ref b2)]) _
    refine own_go (fun t_ k_ => X4.aaload hx (j := (1 : Int32)) (v := (.ref w1)) (by rw [e4]; exact Ab2.1) (State.isArrayOf_alike hZ.alike Ab2.2.1) rfl Ab2.2.2 (by show ¬ ((1 : Int32) < 0 ∨ clV.slots.size ≤ (1 : Int32).toNatClampNeg); rw [sz_V]; decide) l1 (g := (mkF m 25 #[.val (.long q1), .second, .val (.ref aE), .val (.ref b2), .val (.int (3 : Int32)), .val (.int (1 : Int32)), .val (.ref w0)] [(.int (1 : Int32)), (.ref b2)])) rfl rfl (hb hby d2_25) _ k_) ?_
    show own_G p.tables e below T4 (mkF m 26 #[.val (.long q1), .second, .val (.ref aE), .val (.ref b2), .val (.int (3 : Int32)), .val (.int (1 : Int32)), .val (.ref w0)] [(.ref w1)]) _
    refine own_go (fun t_ k_ => XS.astore X4.here hx rfl (hb hby d2_26) rfl rfl (l' := #[.val (.long q1), .second, .val (.ref aE), .val (.ref b2), .val (.int (3 : Int32)), .val (.int (1 : Int32)), .val (.ref w1)]) rfl k_) ?_
    show own_G p.tables e below T4 (mkF m 28 #[.val (.long q1), .second, .val (.ref aE), .val (.ref b2), .val (.int (3 : Int32)), .val (.int (1 : Int32)), .val (.ref w1)] []) _
    refine own_go (fun t_ k_ => XS.aload X4.here hx rfl (hb hby d2_28) rfl rfl k_) ?_
    show own_G p.tables e below T4 (mkF m 30 #[.val (.long q1), .second, .val (.ref aE), .val (.ref b2), .val (.int (3 : Int32)), .val (.int (1 : Int32)), .val (.ref w1)] [(.ref w1)]) _
    have f19 : Fld Z T2.heap w1 "com/example/atmost1/atmost1/server/UnlockStatus" "code" "I" (.int (1 : Int32)) := (F1.keep K2 List.not_mem_nil)
    obtain ⟨T20, X20, e20, st20⟩ := getF X4 hx hZ hown (host := "") (Or.inl (hw _ (List.mem_of_getElem? (i := 32) rfl))) Via.refl e4 f19 (g := (mkF m 30 #[.val (.long q1), .second, .val (.ref aE), .val (.ref b2), .val (.int (3 : Int32)), .val (.int (1 : Int32)), .val (.ref w1)] [(.ref w1)])) rfl rfl (hb hby d2_30)
    refine own_go st20 ?_
    show own_G p.tables e below T20 (mkF m 33 #[.val (.long q1), .second, .val (.ref aE), .val (.ref b2), .val (.int (3 : Int32)), .val (.int (1 : Int32)), .val (.ref w1)] [(.int (1 : Int32))]) _
    refine own_go (fun t_ k_ => XS.i2l X20.here hx rfl (hb hby d2_33) rfl k_) ?_
    show own_G p.tables e below T20 (mkF m 34 #[.val (.long q1), .second, .val (.ref aE), .val (.ref b2), .val (.int (3 : Int32)), .val (.int (1 : Int32)), .val (.ref w1)] [(.long (1 : Int64))]) _
    refine own_go (fun t_ k_ => XS.lloadN X20.here hx rfl (hb hby d2_34) rfl k_) ?_
    show own_G p.tables e below T20 (mkF m 35 #[.val (.long q1), .second, .val (.ref aE), .val (.ref b2), .val (.int (3 : Int32)), .val (.int (1 : Int32)), .val (.ref w1)] [(.long q1), (.long (1 : Int64))]) _
    refine own_go (fun t_ k_ => XS.lcmp X20.here hx rfl (hb hby d2_35) rfl k_) ?_
    show own_G p.tables e below T20 (mkF m 36 #[.val (.long q1), .second, .val (.ref aE), .val (.ref b2), .val (.int (3 : Int32)), .val (.int (1 : Int32)), .val (.ref w1)] [(.int (lcmpW (1 : Int64) q1))]) _
    by_cases hc36_21 : (1 : Int64) = q1
    · skip
      refine own_go (fun t_ k_ => XS.ifNo X20.here hx rfl (hb hby d2_36) rfl ((if0 _ _).trans (teq ((lw_eq (1 : Int64) q1).mpr hc36_21)).2) k_) ?_
      show own_G p.tables e below T20 (mkF m 39 #[.val (.long q1), .second, .val (.ref aE), .val (.ref b2), .val (.int (3 : Int32)), .val (.int (1 : Int32)), .val (.ref w1)] []) _
      refine own_go (fun t_ k_ => XS.aload X20.here hx rfl (hb hby d2_39) rfl rfl k_) ?_
      show own_G p.tables e below T20 (mkF m 41 #[.val (.long q1), .second, .val (.ref aE), .val (.ref b2), .val (.int (3 : Int32)), .val (.int (1 : Int32)), .val (.ref w1)] [(.ref w1)]) _
      have f22 : n0 ≤ T2.heap.size := (Nat.le_trans Z0 K2.1)
      have f23 : Keep h0 T2.heap [] := ((Keep.refl h0 []).trans K2 all0)
      have f24 : Exa Z T2.heap aE "java/util/Optional" := (E_E.keep K2)
      have f25 : Fld Z T2.heap aE "java/util/Optional" "value" "Ljava/lang/Object;" .null := (F_E.keep K2 List.not_mem_nil)
      have f26 : Fld Z T2.heap w2 "com/example/atmost1/atmost1/server/UnlockStatus" "code" "I" (.int (2 : Int32)) := (F2.keep K2 List.not_mem_nil)
      obtain ⟨_, _, ⟨T27, L27, k27, n27⟩, -, X27, ⟨Lc27, hQ27, l27, y27, z27⟩, st27⟩ := Jvm.LawKit.callS X20 hx (y := (⟨"java/util/Optional", "of", "(Ljava/lang/Object;)Ljava/util/Optional;"⟩ : MethodName)) hown (mvT hZ (hw _ (List.mem_of_getElem? (i := 42) rfl))) (mvT hZ (hw _ (List.mem_of_getElem? (i := 43) rfl))) (mvT hZ (hw _ (List.mem_of_getElem? (i := 11) rfl))) (mvT hZ (hw _ (List.mem_of_getElem? (i := 44) rfl))) (by decide) (backOf (W := 0) (rm6 l Z a0 hw [] w1 T2.heap n0 f22) hZ (hw _ (List.mem_of_getElem? (i := 44) rfl)) (hw _ (List.mem_of_getElem? (i := 11) rfl)) (by decide) (by decide)) (g := (mkF m 41 #[.val (.long q1), .second, .val (.ref aE), .val (.ref b2), .val (.int (3 : Int32)), .val (.int (1 : Int32)), .val (.ref w1)] [(.ref w1)])) rfl (by rw [hml]; rfl) (argsL := [(.ref w1)]) (rest := []) (lenOf own_pd4 rfl) rfl (by show 2 * 0 + _ ≤ _; exact Nat.le_of_eq rfl) (hb hby d2_41) (fun _ _ => ⟨rfl, e20, (by decide : 1 + 1 ≤ _), (by decide : 3 + 1 ≤ _)⟩)
      dsimp only [Pt.U, Pt.locs, Pt.cells, Pt.slots] at X27 l27 y27 z27 st27 hQ27
      subst l27 y27 z27
      obtain ⟨o27, rfl, N27q, K27, go27, so27, Eo27, Fo27⟩ := hQ27
      have N27 := Fr.app N2 N27q
      refine own_go st27 ?_
      show own_G p.tables e below T27 (mkF m 44 #[.val (.long q1), .second, .val (.ref aE), .val (.ref b2), .val (.int (3 : Int32)), .val (.int (1 : Int32)), .val (.ref w1)] [(.ref o27)]) _
      refine own_go (fun t_ k_ => XS.astoreN X27.here hx rfl (hb hby d2_44) rfl rfl (l' := #[.val (.long q1), .second, .val (.ref o27), .val (.ref b2), .val (.int (3 : Int32)), .val (.int (1 : Int32)), .val (.ref w1)]) rfl k_) ?_
      show own_G p.tables e below T27 (mkF m 45 #[.val (.long q1), .second, .val (.ref o27), .val (.ref b2), .val (.int (3 : Int32)), .val (.int (1 : Int32)), .val (.ref w1)] []) _
      refine own_go (fun t_ k_ => XS.iinc X27.here hx rfl (hb hby d2_45) rfl (l' := #[.val (.long q1), .second, .val (.ref o27), .val (.ref b2), .val (.int (3 : Int32)), .val (.int (2 : Int32)), .val (.ref w1)]) rfl k_) ?_
      show own_G p.tables e below T27 (mkF m 48 #[.val (.long q1), .second, .val (.ref o27), .val (.ref b2), .val (.int (3 : Int32)), .val (.int (2 : Int32)), .val (.ref w1)] []) _
      refine own_go (fun t_ k_ => XS.goto X27.here hx rfl (pc0 := 48) (pc' := 15) rfl (hb hby d2_48) (by decide) (by decide) k_) ?_
      show own_G p.tables e below T27 (mkF m 15 #[.val (.long q1), .second, .val (.ref o27), .val (.ref b2), .val (.int (3 : Int32)), .val (.int (2 : Int32)), .val (.ref w1)] []) _
      refine own_go (fun t_ k_ => XS.iload X27.here hx rfl (hb hby d2_15) rfl k_) ?_
      show own_G p.tables e below T27 (mkF m 17 #[.val (.long q1), .second, .val (.ref o27), .val (.ref b2), .val (.int (3 : Int32)), .val (.int (2 : Int32)), .val (.ref w1)] [(.int (2 : Int32))]) _
      refine own_go (fun t_ k_ => XS.iload X27.here hx rfl (hb hby d2_17) rfl k_) ?_
      show own_G p.tables e below T27 (mkF m 19 #[.val (.long q1), .second, .val (.ref o27), .val (.ref b2), .val (.int (3 : Int32)), .val (.int (2 : Int32)), .val (.ref w1)] [(.int (3 : Int32)), (.int (2 : Int32))]) _
      refine own_go (fun t_ k_ => XS.icmpNo X27.here hx rfl (hb hby d2_19) rfl (tlt (by decide : ((2 : Int32) < (3 : Int32)))).2.1 k_) ?_
      show own_G p.tables e below T27 (mkF m 22 #[.val (.long q1), .second, .val (.ref o27), .val (.ref b2), .val (.int (3 : Int32)), .val (.int (2 : Int32)), .val (.ref w1)] []) _
      refine own_go (fun t_ k_ => XS.aloadN X27.here hx rfl (hb hby d2_22) rfl rfl k_) ?_
      show own_G p.tables e below T27 (mkF m 23 #[.val (.long q1), .second, .val (.ref o27), .val (.ref b2), .val (.int (3 : Int32)), .val (.int (2 : Int32)), .val (.ref w1)] [(.ref b2)]) _
      refine own_go (fun t_ k_ => XS.iload X27.here hx rfl (hb hby d2_23) rfl k_) ?_
      show own_G p.tables e below T27 (mkF m 25 #[.val (.long q1), .second, .val (.ref o27), .val (.ref b2), .val (.int (3 : Int32)), .val (.int (2 : Int32)), .val (.ref w1)] [(.int (2 : Int32)), (.ref b2)]) _
      have f28 : Arr Z T27.heap b2 (cloneOf clV) (.object "com/example/atmost1/atmost1/server/UnlockStatus") := (own_ak Ab2 K27)
      refine own_go (fun t_ k_ => X27.aaload hx (j := (2 : Int32)) (v := (.ref w2)) f28.1 (State.isArrayOf_alike hZ.alike f28.2.1) rfl f28.2.2 (by show ¬ ((2 : Int32) < 0 ∨ clV.slots.size ≤ (2 : Int32).toNatClampNeg); rw [sz_V]; decide) l2 (g := (mkF m 25 #[.val (.long q1), .second, .val (.ref o27), .val (.ref b2), .val (.int (3 : Int32)), .val (.int (2 : Int32)), .val (.ref w1)] [(.int (2 : Int32)), (.ref b2)])) rfl rfl (hb hby d2_25) _ k_) ?_
      show own_G p.tables e below T27 (mkF m 26 #[.val (.long q1), .second, .val (.ref o27), .val (.ref b2), .val (.int (3 : Int32)), .val (.int (2 : Int32)), .val (.ref w1)] [(.ref w2)]) _
      refine own_go (fun t_ k_ => XS.astore X27.here hx rfl (hb hby d2_26) rfl rfl (l' := #[.val (.long q1), .second, .val (.ref o27), .val (.ref b2), .val (.int (3 : Int32)), .val (.int (2 : Int32)), .val (.ref w2)]) rfl k_) ?_
      show own_G p.tables e below T27 (mkF m 28 #[.val (.long q1), .second, .val (.ref o27), .val (.ref b2), .val (.int (3 : Int32)), .val (.int (2 : Int32)), .val (.ref w2)] []) _
      refine own_go (fun t_ k_ => XS.aload X27.here hx rfl (hb hby d2_28) rfl rfl k_) ?_
      show own_G p.tables e below T27 (mkF m 30 #[.val (.long q1), .second, .val (.ref o27), .val (.ref b2), .val (.int (3 : Int32)), .val (.int (2 : Int32)), .val (.ref w2)] [(.ref w2)]) _
      have f29 : Fld Z T27.heap w2 "com/example/atmost1/atmost1/server/UnlockStatus" "code" "I" (.int (2 : Int32)) := (f26.keep K27 List.not_mem_nil)
      obtain ⟨T30, X30, e30, st30⟩ := getF X27 hx hZ hown (host := "") (Or.inl (hw _ (List.mem_of_getElem? (i := 32) rfl))) Via.refl rfl f29 (g := (mkF m 30 #[.val (.long q1), .second, .val (.ref o27), .val (.ref b2), .val (.int (3 : Int32)), .val (.int (2 : Int32)), .val (.ref w2)] [(.ref w2)])) rfl rfl (hb hby d2_30)
      refine own_go st30 ?_
      show own_G p.tables e below T30 (mkF m 33 #[.val (.long q1), .second, .val (.ref o27), .val (.ref b2), .val (.int (3 : Int32)), .val (.int (2 : Int32)), .val (.ref w2)] [(.int (2 : Int32))]) _
      refine own_go (fun t_ k_ => XS.i2l X30.here hx rfl (hb hby d2_33) rfl k_) ?_
      show own_G p.tables e below T30 (mkF m 34 #[.val (.long q1), .second, .val (.ref o27), .val (.ref b2), .val (.int (3 : Int32)), .val (.int (2 : Int32)), .val (.ref w2)] [(.long (2 : Int64))]) _
      refine own_go (fun t_ k_ => XS.lloadN X30.here hx rfl (hb hby d2_34) rfl k_) ?_
      show own_G p.tables e below T30 (mkF m 35 #[.val (.long q1), .second, .val (.ref o27), .val (.ref b2), .val (.int (3 : Int32)), .val (.int (2 : Int32)), .val (.ref w2)] [(.long q1), (.long (2 : Int64))]) _
      refine own_go (fun t_ k_ => XS.lcmp X30.here hx rfl (hb hby d2_35) rfl k_) ?_
      show own_G p.tables e below T30 (mkF m 36 #[.val (.long q1), .second, .val (.ref o27), .val (.ref b2), .val (.int (3 : Int32)), .val (.int (2 : Int32)), .val (.ref w2)] [(.int (lcmpW (2 : Int64) q1))]) _
      refine own_go (fun t_ k_ => XS.ifYes X30.here hx rfl (pc0 := 36) (pc' := 45) rfl (hb hby d2_36) rfl ((if0 _ _).trans (feq (mt (lw_eq (2 : Int64) q1).mp (fun q => absurd (hc36_21.trans q.symm) (by decide)))).2) (by decide) (by decide) k_) ?_
      show own_G p.tables e below T30 (mkF m 45 #[.val (.long q1), .second, .val (.ref o27), .val (.ref b2), .val (.int (3 : Int32)), .val (.int (2 : Int32)), .val (.ref w2)] []) _
      refine own_go (fun t_ k_ => XS.iinc X30.here hx rfl (hb hby d2_45) rfl (l' := #[.val (.long q1), .second, .val (.ref o27), .val (.ref b2), .val (.int (3 : Int32)), .val (.int (3 : Int32)), .val (.ref w2)]) rfl k_) ?_
      show own_G p.tables e below T30 (mkF m 48 #[.val (.long q1), .second, .val (.ref o27), .val (.ref b2), .val (.int (3 : Int32)), .val (.int (3 : Int32)), .val (.ref w2)] []) _
      refine own_go (fun t_ k_ => XS.goto X30.here hx rfl (pc0 := 48) (pc' := 15) rfl (hb hby d2_48) (by decide) (by decide) k_) ?_
      show own_G p.tables e below T30 (mkF m 15 #[.val (.long q1), .second, .val (.ref o27), .val (.ref b2), .val (.int (3 : Int32)), .val (.int (3 : Int32)), .val (.ref w2)] []) _
      refine own_go (fun t_ k_ => XS.iload X30.here hx rfl (hb hby d2_15) rfl k_) ?_
      show own_G p.tables e below T30 (mkF m 17 #[.val (.long q1), .second, .val (.ref o27), .val (.ref b2), .val (.int (3 : Int32)), .val (.int (3 : Int32)), .val (.ref w2)] [(.int (3 : Int32))]) _
      refine own_go (fun t_ k_ => XS.iload X30.here hx rfl (hb hby d2_17) rfl k_) ?_
      show own_G p.tables e below T30 (mkF m 19 #[.val (.long q1), .second, .val (.ref o27), .val (.ref b2), .val (.int (3 : Int32)), .val (.int (3 : Int32)), .val (.ref w2)] [(.int (3 : Int32)), (.int (3 : Int32))]) _
      refine own_go (fun t_ k_ => XS.icmpYes X30.here hx rfl (pc0 := 19) (pc' := 51) rfl (hb hby d2_19) rfl (flt (by decide : ¬ ((3 : Int32) < (3 : Int32)))).2.1 (by decide) (by decide) k_) ?_
      show own_G p.tables e below T30 (mkF m 51 #[.val (.long q1), .second, .val (.ref o27), .val (.ref b2), .val (.int (3 : Int32)), .val (.int (3 : Int32)), .val (.ref w2)] []) _
      refine own_go (fun t_ k_ => XS.aloadN X30.here hx rfl (hb hby d2_51) rfl rfl k_) ?_
      show own_G p.tables e below T30 (mkF m 52 #[.val (.long q1), .second, .val (.ref o27), .val (.ref b2), .val (.int (3 : Int32)), .val (.int (3 : Int32)), .val (.ref w2)] [(.ref o27)]) _
      have f31 : Keep h0 T27.heap [] := (f23.trans K27 all0)
      exact own_end (v := some (.ref o27)) X30 Bd.notSynchronized (fun h => by rw [Bd.returns] at h; cases h) (fun fs hr => own_retR X30 hx rfl Bd.returns rfl (hb hby d2_52) hr) e30 ⟨_, rfl, N27, f31, Eo27, (by unfold own_val; rw [if_neg hc36_5, if_pos hc36_21]; exact Fo27)⟩ (by decide) (by decide)
    · skip
      refine own_go (fun t_ k_ => XS.ifYes X20.here hx rfl (pc0 := 36) (pc' := 45) rfl (hb hby d2_36) rfl ((if0 _ _).trans (feq (mt (lw_eq (1 : Int64) q1).mp hc36_21)).2) (by decide) (by decide) k_) ?_
      show own_G p.tables e below T20 (mkF m 45 #[.val (.long q1), .second, .val (.ref aE), .val (.ref b2), .val (.int (3 : Int32)), .val (.int (1 : Int32)), .val (.ref w1)] []) _
      refine own_go (fun t_ k_ => XS.iinc X20.here hx rfl (hb hby d2_45) rfl (l' := #[.val (.long q1), .second, .val (.ref aE), .val (.ref b2), .val (.int (3 : Int32)), .val (.int (2 : Int32)), .val (.ref w1)]) rfl k_) ?_
      show own_G p.tables e below T20 (mkF m 48 #[.val (.long q1), .second, .val (.ref aE), .val (.ref b2), .val (.int (3 : Int32)), .val (.int (2 : Int32)), .val (.ref w1)] []) _
      refine own_go (fun t_ k_ => XS.goto X20.here hx rfl (pc0 := 48) (pc' := 15) rfl (hb hby d2_48) (by decide) (by decide) k_) ?_
      show own_G p.tables e below T20 (mkF m 15 #[.val (.long q1), .second, .val (.ref aE), .val (.ref b2), .val (.int (3 : Int32)), .val (.int (2 : Int32)), .val (.ref w1)] []) _
      refine own_go (fun t_ k_ => XS.iload X20.here hx rfl (hb hby d2_15) rfl k_) ?_
      show own_G p.tables e below T20 (mkF m 17 #[.val (.long q1), .second, .val (.ref aE), .val (.ref b2), .val (.int (3 : Int32)), .val (.int (2 : Int32)), .val (.ref w1)] [(.int (2 : Int32))]) _
      refine own_go (fun t_ k_ => XS.iload X20.here hx rfl (hb hby d2_17) rfl k_) ?_
      show own_G p.tables e below T20 (mkF m 19 #[.val (.long q1), .second, .val (.ref aE), .val (.ref b2), .val (.int (3 : Int32)), .val (.int (2 : Int32)), .val (.ref w1)] [(.int (3 : Int32)), (.int (2 : Int32))]) _
      refine own_go (fun t_ k_ => XS.icmpNo X20.here hx rfl (hb hby d2_19) rfl (tlt (by decide : ((2 : Int32) < (3 : Int32)))).2.1 k_) ?_
      show own_G p.tables e below T20 (mkF m 22 #[.val (.long q1), .second, .val (.ref aE), .val (.ref b2), .val (.int (3 : Int32)), .val (.int (2 : Int32)), .val (.ref w1)] []) _
      refine own_go (fun t_ k_ => XS.aloadN X20.here hx rfl (hb hby d2_22) rfl rfl k_) ?_
      show own_G p.tables e below T20 (mkF m 23 #[.val (.long q1), .second, .val (.ref aE), .val (.ref b2), .val (.int (3 : Int32)), .val (.int (2 : Int32)), .val (.ref w1)] [(.ref b2)]) _
      refine own_go (fun t_ k_ => XS.iload X20.here hx rfl (hb hby d2_23) rfl k_) ?_
      show own_G p.tables e below T20 (mkF m 25 #[.val (.long q1), .second, .val (.ref aE), .val (.ref b2), .val (.int (3 : Int32)), .val (.int (2 : Int32)), .val (.ref w1)] [(.int (2 : Int32)), (.ref b2)]) _
      refine own_go (fun t_ k_ => X20.aaload hx (j := (2 : Int32)) (v := (.ref w2)) (by rw [e20]; exact Ab2.1) (State.isArrayOf_alike hZ.alike Ab2.2.1) rfl Ab2.2.2 (by show ¬ ((2 : Int32) < 0 ∨ clV.slots.size ≤ (2 : Int32).toNatClampNeg); rw [sz_V]; decide) l2 (g := (mkF m 25 #[.val (.long q1), .second, .val (.ref aE), .val (.ref b2), .val (.int (3 : Int32)), .val (.int (2 : Int32)), .val (.ref w1)] [(.int (2 : Int32)), (.ref b2)])) rfl rfl (hb hby d2_25) _ k_) ?_
      show own_G p.tables e below T20 (mkF m 26 #[.val (.long q1), .second, .val (.ref aE), .val (.ref b2), .val (.int (3 : Int32)), .val (.int (2 : Int32)), .val (.ref w1)] [(.ref w2)]) _
      refine own_go (fun t_ k_ => XS.astore X20.here hx rfl (hb hby d2_26) rfl rfl (l' := #[.val (.long q1), .second, .val (.ref aE), .val (.ref b2), .val (.int (3 : Int32)), .val (.int (2 : Int32)), .val (.ref w2)]) rfl k_) ?_
      show own_G p.tables e below T20 (mkF m 28 #[.val (.long q1), .second, .val (.ref aE), .val (.ref b2), .val (.int (3 : Int32)), .val (.int (2 : Int32)), .val (.ref w2)] []) _
      refine own_go (fun t_ k_ => XS.aload X20.here hx rfl (hb hby d2_28) rfl rfl k_) ?_
      show own_G p.tables e below T20 (mkF m 30 #[.val (.long q1), .second, .val (.ref aE), .val (.ref b2), .val (.int (3 : Int32)), .val (.int (2 : Int32)), .val (.ref w2)] [(.ref w2)]) _
      have f32 : Fld Z T2.heap w2 "com/example/atmost1/atmost1/server/UnlockStatus" "code" "I" (.int (2 : Int32)) := (F2.keep K2 List.not_mem_nil)
      obtain ⟨T33, X33, e33, st33⟩ := getF X20 hx hZ hown (host := "") (Or.inl (hw _ (List.mem_of_getElem? (i := 32) rfl))) Via.refl e20 f32 (g := (mkF m 30 #[.val (.long q1), .second, .val (.ref aE), .val (.ref b2), .val (.int (3 : Int32)), .val (.int (2 : Int32)), .val (.ref w2)] [(.ref w2)])) rfl rfl (hb hby d2_30)
      refine own_go st33 ?_
      show own_G p.tables e below T33 (mkF m 33 #[.val (.long q1), .second, .val (.ref aE), .val (.ref b2), .val (.int (3 : Int32)), .val (.int (2 : Int32)), .val (.ref w2)] [(.int (2 : Int32))]) _
      refine own_go (fun t_ k_ => XS.i2l X33.here hx rfl (hb hby d2_33) rfl k_) ?_
      show own_G p.tables e below T33 (mkF m 34 #[.val (.long q1), .second, .val (.ref aE), .val (.ref b2), .val (.int (3 : Int32)), .val (.int (2 : Int32)), .val (.ref w2)] [(.long (2 : Int64))]) _
      refine own_go (fun t_ k_ => XS.lloadN X33.here hx rfl (hb hby d2_34) rfl k_) ?_
      show own_G p.tables e below T33 (mkF m 35 #[.val (.long q1), .second, .val (.ref aE), .val (.ref b2), .val (.int (3 : Int32)), .val (.int (2 : Int32)), .val (.ref w2)] [(.long q1), (.long (2 : Int64))]) _
      refine own_go (fun t_ k_ => XS.lcmp X33.here hx rfl (hb hby d2_35) rfl k_) ?_
      show own_G p.tables e below T33 (mkF m 36 #[.val (.long q1), .second, .val (.ref aE), .val (.ref b2), .val (.int (3 : Int32)), .val (.int (2 : Int32)), .val (.ref w2)] [(.int (lcmpW (2 : Int64) q1))]) _
      by_cases hc36_34 : (2 : Int64) = q1
      · skip
        refine own_go (fun t_ k_ => XS.ifNo X33.here hx rfl (hb hby d2_36) rfl ((if0 _ _).trans (teq ((lw_eq (2 : Int64) q1).mpr hc36_34)).2) k_) ?_
        show own_G p.tables e below T33 (mkF m 39 #[.val (.long q1), .second, .val (.ref aE), .val (.ref b2), .val (.int (3 : Int32)), .val (.int (2 : Int32)), .val (.ref w2)] []) _
        refine own_go (fun t_ k_ => XS.aload X33.here hx rfl (hb hby d2_39) rfl rfl k_) ?_
        show own_G p.tables e below T33 (mkF m 41 #[.val (.long q1), .second, .val (.ref aE), .val (.ref b2), .val (.int (3 : Int32)), .val (.int (2 : Int32)), .val (.ref w2)] [(.ref w2)]) _
        have f35 : n0 ≤ T2.heap.size := (Nat.le_trans Z0 K2.1)
        have f36 : Keep h0 T2.heap [] := ((Keep.refl h0 []).trans K2 all0)
        have f37 : Exa Z T2.heap aE "java/util/Optional" := (E_E.keep K2)
        have f38 : Fld Z T2.heap aE "java/util/Optional" "value" "Ljava/lang/Object;" .null := (F_E.keep K2 List.not_mem_nil)
        obtain ⟨_, _, ⟨T39, L39, k39, n39⟩, -, X39, ⟨Lc39, hQ39, l39, y39, z39⟩, st39⟩ := Jvm.LawKit.callS X33 hx (y := (⟨"java/util/Optional", "of", "(Ljava/lang/Object;)Ljava/util/Optional;"⟩ : MethodName)) hown (mvT hZ (hw _ (List.mem_of_getElem? (i := 42) rfl))) (mvT hZ (hw _ (List.mem_of_getElem? (i := 43) rfl))) (mvT hZ (hw _ (List.mem_of_getElem? (i := 11) rfl))) (mvT hZ (hw _ (List.mem_of_getElem? (i := 44) rfl))) (by decide) (backOf (W := 0) (rm6 l Z a0 hw [] w2 T2.heap n0 f35) hZ (hw _ (List.mem_of_getElem? (i := 44) rfl)) (hw _ (List.mem_of_getElem? (i := 11) rfl)) (by decide) (by decide)) (g := (mkF m 41 #[.val (.long q1), .second, .val (.ref aE), .val (.ref b2), .val (.int (3 : Int32)), .val (.int (2 : Int32)), .val (.ref w2)] [(.ref w2)])) rfl (by rw [hml]; rfl) (argsL := [(.ref w2)]) (rest := []) (lenOf own_pd4 rfl) rfl (by show 2 * 0 + _ ≤ _; exact Nat.le_of_eq rfl) (hb hby d2_41) (fun _ _ => ⟨rfl, e33, (by decide : 1 + 1 ≤ _), (by decide : 3 + 1 ≤ _)⟩)
        dsimp only [Pt.U, Pt.locs, Pt.cells, Pt.slots] at X39 l39 y39 z39 st39 hQ39
        subst l39 y39 z39
        obtain ⟨o39, rfl, N39q, K39, go39, so39, Eo39, Fo39⟩ := hQ39
        have N39 := Fr.app N2 N39q
        refine own_go st39 ?_
        show own_G p.tables e below T39 (mkF m 44 #[.val (.long q1), .second, .val (.ref aE), .val (.ref b2), .val (.int (3 : Int32)), .val (.int (2 : Int32)), .val (.ref w2)] [(.ref o39)]) _
        refine own_go (fun t_ k_ => XS.astoreN X39.here hx rfl (hb hby d2_44) rfl rfl (l' := #[.val (.long q1), .second, .val (.ref o39), .val (.ref b2), .val (.int (3 : Int32)), .val (.int (2 : Int32)), .val (.ref w2)]) rfl k_) ?_
        show own_G p.tables e below T39 (mkF m 45 #[.val (.long q1), .second, .val (.ref o39), .val (.ref b2), .val (.int (3 : Int32)), .val (.int (2 : Int32)), .val (.ref w2)] []) _
        refine own_go (fun t_ k_ => XS.iinc X39.here hx rfl (hb hby d2_45) rfl (l' := #[.val (.long q1), .second, .val (.ref o39), .val (.ref b2), .val (.int (3 : Int32)), .val (.int (3 : Int32)), .val (.ref w2)]) rfl k_) ?_
        show own_G p.tables e below T39 (mkF m 48 #[.val (.long q1), .second, .val (.ref o39), .val (.ref b2), .val (.int (3 : Int32)), .val (.int (3 : Int32)), .val (.ref w2)] []) _
        refine own_go (fun t_ k_ => XS.goto X39.here hx rfl (pc0 := 48) (pc' := 15) rfl (hb hby d2_48) (by decide) (by decide) k_) ?_
        show own_G p.tables e below T39 (mkF m 15 #[.val (.long q1), .second, .val (.ref o39), .val (.ref b2), .val (.int (3 : Int32)), .val (.int (3 : Int32)), .val (.ref w2)] []) _
        refine own_go (fun t_ k_ => XS.iload X39.here hx rfl (hb hby d2_15) rfl k_) ?_
        show own_G p.tables e below T39 (mkF m 17 #[.val (.long q1), .second, .val (.ref o39), .val (.ref b2), .val (.int (3 : Int32)), .val (.int (3 : Int32)), .val (.ref w2)] [(.int (3 : Int32))]) _
        refine own_go (fun t_ k_ => XS.iload X39.here hx rfl (hb hby d2_17) rfl k_) ?_
        show own_G p.tables e below T39 (mkF m 19 #[.val (.long q1), .second, .val (.ref o39), .val (.ref b2), .val (.int (3 : Int32)), .val (.int (3 : Int32)), .val (.ref w2)] [(.int (3 : Int32)), (.int (3 : Int32))]) _
        refine own_go (fun t_ k_ => XS.icmpYes X39.here hx rfl (pc0 := 19) (pc' := 51) rfl (hb hby d2_19) rfl (flt (by decide : ¬ ((3 : Int32) < (3 : Int32)))).2.1 (by decide) (by decide) k_) ?_
        show own_G p.tables e below T39 (mkF m 51 #[.val (.long q1), .second, .val (.ref o39), .val (.ref b2), .val (.int (3 : Int32)), .val (.int (3 : Int32)), .val (.ref w2)] []) _
        refine own_go (fun t_ k_ => XS.aloadN X39.here hx rfl (hb hby d2_51) rfl rfl k_) ?_
        show own_G p.tables e below T39 (mkF m 52 #[.val (.long q1), .second, .val (.ref o39), .val (.ref b2), .val (.int (3 : Int32)), .val (.int (3 : Int32)), .val (.ref w2)] [(.ref o39)]) _
        have f40 : Keep h0 T39.heap [] := (f36.trans K39 all0)
        exact own_end (v := some (.ref o39)) X39 Bd.notSynchronized (fun h => by rw [Bd.returns] at h; cases h) (fun fs hr => own_retR X39 hx rfl Bd.returns rfl (hb hby d2_52) hr) rfl ⟨_, rfl, N39, f40, Eo39, (by unfold own_val; rw [if_neg hc36_5, if_neg hc36_21, if_pos hc36_34]; exact Fo39)⟩ (by decide) (by decide)
      · skip
        refine own_go (fun t_ k_ => XS.ifYes X33.here hx rfl (pc0 := 36) (pc' := 45) rfl (hb hby d2_36) rfl ((if0 _ _).trans (feq (mt (lw_eq (2 : Int64) q1).mp hc36_34)).2) (by decide) (by decide) k_) ?_
        show own_G p.tables e below T33 (mkF m 45 #[.val (.long q1), .second, .val (.ref aE), .val (.ref b2), .val (.int (3 : Int32)), .val (.int (2 : Int32)), .val (.ref w2)] []) _
        refine own_go (fun t_ k_ => XS.iinc X33.here hx rfl (hb hby d2_45) rfl (l' := #[.val (.long q1), .second, .val (.ref aE), .val (.ref b2), .val (.int (3 : Int32)), .val (.int (3 : Int32)), .val (.ref w2)]) rfl k_) ?_
        show own_G p.tables e below T33 (mkF m 48 #[.val (.long q1), .second, .val (.ref aE), .val (.ref b2), .val (.int (3 : Int32)), .val (.int (3 : Int32)), .val (.ref w2)] []) _
        refine own_go (fun t_ k_ => XS.goto X33.here hx rfl (pc0 := 48) (pc' := 15) rfl (hb hby d2_48) (by decide) (by decide) k_) ?_
        show own_G p.tables e below T33 (mkF m 15 #[.val (.long q1), .second, .val (.ref aE), .val (.ref b2), .val (.int (3 : Int32)), .val (.int (3 : Int32)), .val (.ref w2)] []) _
        refine own_go (fun t_ k_ => XS.iload X33.here hx rfl (hb hby d2_15) rfl k_) ?_
        show own_G p.tables e below T33 (mkF m 17 #[.val (.long q1), .second, .val (.ref aE), .val (.ref b2), .val (.int (3 : Int32)), .val (.int (3 : Int32)), .val (.ref w2)] [(.int (3 : Int32))]) _
        refine own_go (fun t_ k_ => XS.iload X33.here hx rfl (hb hby d2_17) rfl k_) ?_
        show own_G p.tables e below T33 (mkF m 19 #[.val (.long q1), .second, .val (.ref aE), .val (.ref b2), .val (.int (3 : Int32)), .val (.int (3 : Int32)), .val (.ref w2)] [(.int (3 : Int32)), (.int (3 : Int32))]) _
        refine own_go (fun t_ k_ => XS.icmpYes X33.here hx rfl (pc0 := 19) (pc' := 51) rfl (hb hby d2_19) rfl (flt (by decide : ¬ ((3 : Int32) < (3 : Int32)))).2.1 (by decide) (by decide) k_) ?_
        show own_G p.tables e below T33 (mkF m 51 #[.val (.long q1), .second, .val (.ref aE), .val (.ref b2), .val (.int (3 : Int32)), .val (.int (3 : Int32)), .val (.ref w2)] []) _
        refine own_go (fun t_ k_ => XS.aloadN X33.here hx rfl (hb hby d2_51) rfl rfl k_) ?_
        show own_G p.tables e below T33 (mkF m 52 #[.val (.long q1), .second, .val (.ref aE), .val (.ref b2), .val (.int (3 : Int32)), .val (.int (3 : Int32)), .val (.ref w2)] [(.ref aE)]) _
        have f41 : Fld Z T2.heap aE "java/util/Optional" "value" "Ljava/lang/Object;" .null := (F_E.keep K2 List.not_mem_nil)
        have f42 : Keep h0 T2.heap [] := ((Keep.refl h0 []).trans K2 all0)
        have f43 : Exa Z T2.heap aE "java/util/Optional" := (E_E.keep K2)
        exact own_end (v := some (.ref aE)) X33 Bd.notSynchronized (fun h => by rw [Bd.returns] at h; cases h) (fun fs hr => own_retR X33 hx rfl Bd.returns rfl (hb hby d2_52) hr) e33 ⟨_, rfl, N2, f42, f43, (by unfold own_val; rw [if_neg hc36_5, if_neg hc36_21, if_neg hc36_34]; exact f41)⟩ (by decide) (by decide)
theorem d11_0 : decode prog_28_method_4_code 0 = .ok (.aload_n 0, 1) := by decide +kernel
theorem d11_1 : decode prog_28_method_4_code 1 = .ok (.getfield 32, 3) := by decide +kernel
theorem d11_4 : decode prog_28_method_4_code 4 = .ok (.ireturn, 1) := by decide +kernel
theorem ef_11 (m : MethodId) (a1 : Addr) : entryFrame m #[(.ref a1)] 1 = mkF m 0 #[.val (.ref a1)] [] := by first | (simp [entryFrame, mkF, argsToLocals, Value.category]; done) | rfl
def Q11 (Z : State) (a1 : Addr) (u : Int32) (h0 : Heap) (n0 : Nat) (v : Option Value) (h : Heap) (L : List Loc) : Prop := v = some (.int u) ∧ Fr n0 L ∧ h = h0
set_option maxRecDepth 65536 in
set_option maxHeartbeats 40000000 in
theorem rm11 (l : Launch) (Z : State) (a0 : Array Value) (hw : ∀ d ∈ tables_1, d.before a0 Z = true) (ws : List Jvm.Cond) (a1 : Addr) (u : Int32) (h0 : Heap) (n0 : Nat) (Z0 : n0 ≤ h0.size) (F : Fld Z h0 a1 "com/example/atmost1/atmost1/server/UnlockStatus" "code" "I" (.int u)) :
    MetFree l (⟨"com/example/atmost1/atmost1/server/UnlockStatus", "code", "()I"⟩ : MethodName) (head1 (Jvm.Cond.code (⟨"com/example/atmost1/atmost1/server/UnlockStatus", "code", "()I"⟩ : MethodName) prog_28_method_4_code 1 (some .int) :: ws) ({ frames := 0, cells := 0, slots := 0, locals := 0 } : Room)) (fun a U => a = #[(.ref a1)] ∧ Z.Warmed39 U.vm ∧ U.heap = h0) (fun _ _ _ _ _ => True) (fun _ U o U' => ∃ v L, o = .returned v ∧ Q11 Z a1 u h0 n0 v U'.heap L ∧ FrameEnd U o U' L ({ frames := 0, cells := 0, slots := 0, locals := 0 } : Room).cells ({ frames := 0, cells := 0, slots := 0, locals := 0 } : Room).slots) := by
  refine MetFree.of_bodySF (plainFor_of_name own_pn1) hisR ?_
  intro p e s m args below meth c s₁ Bd hml0 hP hK
  obtain ⟨rfl, hZ, hh⟩ := hP
  have hx := Bd.exec
  have hby := Bd.bytes
  have hml : c.maxLocals = 1 := hml0
  have hown : s.vm.findClass "com/example/atmost1/atmost1/server/UnlockStatus" = some m.cls := findClass_of_methodNamed Bd.named
  have hnm := (name_of_methodNamed Bd.named Bd.method).1
  have X0 : Stand p l e ({ frames := 0, cells := 0, slots := 0, locals := 0 } : Room) s m #[(.ref a1)] below meth c s₁ [] 0 0 := Stand.of_body Bd
  have e0 : s₁.heap = h0 := by rw [← hh, Bd.state]; rfl
  have N0 := Fr.nil n0
  refine own_top (Q := Q11 Z a1 u h0 n0) (ef_11 m a1) ?_
  show own_G p.tables e below s₁ (mkF m 0 #[.val (.ref a1)] []) _
  refine own_go (fun t_ k_ => XS.aloadN X0.here hx rfl (hb hby d11_0) rfl rfl k_) ?_
  show own_G p.tables e below s₁ (mkF m 1 #[.val (.ref a1)] [(.ref a1)]) _
  obtain ⟨T1, X1, e1, st1⟩ := getF X0 hx hZ hown (host := "") (Or.inl (hw _ (List.mem_of_getElem? (i := 32) rfl))) Via.refl e0 F (g := (mkF m 1 #[.val (.ref a1)] [(.ref a1)])) rfl rfl (hb hby d11_1)
  refine own_go st1 ?_
  show own_G p.tables e below T1 (mkF m 4 #[.val (.ref a1)] [(.int u)]) _
  exact own_end (v := some (.int u)) X1 Bd.notSynchronized (fun h => by rw [Bd.returns] at h; cases h) (fun fs hr => retI X1 hx Bd.returns (hb hby d11_4) hr) e1 ⟨rfl, N0, rfl⟩ (by decide) (by decide)
def own_pres : Value → Int32
  | .null => 0
  | _ => 1
def own_exp (q : Int64) (w0 w1 w2 : Addr) : Value := if q = (0 : Int64) then .ref w0 else if q = (1 : Int64) then .ref w1 else if q = (2 : Int64) then .ref w2 else .null
theorem d5_0 : decode jdk_32_method_6_code 0 = .ok (.aload_n 0, 1) := by decide +kernel
theorem d5_1 : decode jdk_32_method_6_code 1 = .ok (.getfield 13, 3) := by decide +kernel
theorem d5_4 : decode jdk_32_method_6_code 4 = .ok (.ifnull 7, 3) := by decide +kernel
theorem d5_7 : decode jdk_32_method_6_code 7 = .ok (.iconst 1, 1) := by decide +kernel
theorem d5_8 : decode jdk_32_method_6_code 8 = .ok (.goto 4, 3) := by decide +kernel
theorem d5_11 : decode jdk_32_method_6_code 11 = .ok (.iconst 0, 1) := by decide +kernel
theorem d5_12 : decode jdk_32_method_6_code 12 = .ok (.ireturn, 1) := by decide +kernel
theorem ef_5 (m : MethodId) (a1 : Addr) : entryFrame m #[(.ref a1)] 1 = mkF m 0 #[.val (.ref a1)] [] := by first | (simp [entryFrame, mkF, argsToLocals, Value.category]; done) | rfl
def Q5 (Z : State) (a1 : Addr) (u : Value) (h0 : Heap) (n0 : Nat) (v : Option Value) (h : Heap) (L : List Loc) : Prop := v = some (.int (own_pres u)) ∧ Fr n0 L ∧ h = h0
set_option maxRecDepth 65536 in
set_option maxHeartbeats 40000000 in
theorem rm5 (l : Launch) (Z : State) (a0 : Array Value) (hw : ∀ d ∈ tables_1, d.before a0 Z = true) (ws : List Jvm.Cond) (a1 : Addr) (u : Value) (h0 : Heap) (n0 : Nat) (Z0 : n0 ≤ h0.size) (Fu : Fld Z h0 a1 "java/util/Optional" "value" "Ljava/lang/Object;" u) (hu : u.isRef = true) :
    MetFree l (⟨"java/util/Optional", "isPresent", "()Z"⟩ : MethodName) (head1 (Jvm.Cond.code (⟨"java/util/Optional", "isPresent", "()Z"⟩ : MethodName) jdk_32_method_6_code 1 (some .boolean) :: ws) ({ frames := 0, cells := 0, slots := 0, locals := 0 } : Room)) (fun a U => a = #[(.ref a1)] ∧ Z.Warmed39 U.vm ∧ U.heap = h0) (fun _ _ _ _ _ => True) (fun _ U o U' => ∃ v L, o = .returned v ∧ Q5 Z a1 u h0 n0 v U'.heap L ∧ FrameEnd U o U' L ({ frames := 0, cells := 0, slots := 0, locals := 0 } : Room).cells ({ frames := 0, cells := 0, slots := 0, locals := 0 } : Room).slots) := by
  refine MetFree.of_bodySF (plainFor_of_name own_pn0) hisR ?_
  intro p e s m args below meth c s₁ Bd hml0 hP hK
  obtain ⟨rfl, hZ, hh⟩ := hP
  have hx := Bd.exec
  have hby := Bd.bytes
  have hml : c.maxLocals = 1 := hml0
  have hown : s.vm.findClass "java/util/Optional" = some m.cls := findClass_of_methodNamed Bd.named
  have hnm := (name_of_methodNamed Bd.named Bd.method).1
  have X0 : Stand p l e ({ frames := 0, cells := 0, slots := 0, locals := 0 } : Room) s m #[(.ref a1)] below meth c s₁ [] 0 0 := Stand.of_body Bd
  have e0 : s₁.heap = h0 := by rw [← hh, Bd.state]; rfl
  have N0 := Fr.nil n0
  refine own_top (Q := Q5 Z a1 u h0 n0) (ef_5 m a1) ?_
  rcases ref_cases hu with rfl | ⟨w, rfl⟩
  · skip
    show own_G p.tables e below s₁ (mkF m 0 #[.val (.ref a1)] []) _
    refine own_go (fun t_ k_ => XS.aloadN X0.here hx rfl (hb hby d5_0) rfl rfl k_) ?_
    show own_G p.tables e below s₁ (mkF m 1 #[.val (.ref a1)] [(.ref a1)]) _
    obtain ⟨T1, X1, e1, st1⟩ := getF X0 hx hZ hown (host := "") (Or.inl (hw _ (List.mem_of_getElem? (i := 39) rfl))) Via.refl e0 Fu (g := (mkF m 1 #[.val (.ref a1)] [(.ref a1)])) rfl rfl (hb hby d5_1)
    refine own_go st1 ?_
    show own_G p.tables e below T1 (mkF m 4 #[.val (.ref a1)] [.null]) _
    refine own_go (fun t_ k_ => XS.ifnullYes X1.here hx rfl (pc0 := 4) (pc' := 11) rfl (hb hby d5_4) rfl (by decide) (by decide) k_) ?_
    show own_G p.tables e below T1 (mkF m 11 #[.val (.ref a1)] []) _
    refine own_go (fun t_ k_ => XS.iconst X1.here hx rfl (hb hby d5_11) k_) ?_
    show own_G p.tables e below T1 (mkF m 12 #[.val (.ref a1)] [(.int (0 : Int32))]) _
    exact own_end (v := some (.int (0 : Int32))) X1 Bd.notSynchronized (fun h => by rw [Bd.returns] at h; cases h) (fun fs hr => retN X1 hx (z := (0 : Int32)) (t := .boolean) Bd.returns (by simp) (hb hby d5_12) hr) e1 ⟨rfl, N0, rfl⟩ (by decide) (by decide)
  · skip
    show own_G p.tables e below s₁ (mkF m 0 #[.val (.ref a1)] []) _
    refine own_go (fun t_ k_ => XS.aloadN X0.here hx rfl (hb hby d5_0) rfl rfl k_) ?_
    show own_G p.tables e below s₁ (mkF m 1 #[.val (.ref a1)] [(.ref a1)]) _
    obtain ⟨T2, X2, e2, st2⟩ := getF X0 hx hZ hown (host := "") (Or.inl (hw _ (List.mem_of_getElem? (i := 39) rfl))) Via.refl e0 Fu (g := (mkF m 1 #[.val (.ref a1)] [(.ref a1)])) rfl rfl (hb hby d5_1)
    refine own_go st2 ?_
    show own_G p.tables e below T2 (mkF m 4 #[.val (.ref a1)] [(.ref w)]) _
    refine own_go (fun t_ k_ => XS.ifnullNo X2.here hx rfl (hb hby d5_4) rfl k_) ?_
    show own_G p.tables e below T2 (mkF m 7 #[.val (.ref a1)] []) _
    refine own_go (fun t_ k_ => XS.iconst X2.here hx rfl (hb hby d5_7) k_) ?_
    show own_G p.tables e below T2 (mkF m 8 #[.val (.ref a1)] [(.int (1 : Int32))]) _
    refine own_go (fun t_ k_ => XS.goto X2.here hx rfl (pc0 := 8) (pc' := 12) rfl (hb hby d5_8) (by decide) (by decide) k_) ?_
    show own_G p.tables e below T2 (mkF m 12 #[.val (.ref a1)] [(.int (1 : Int32))]) _
    exact own_end (v := some (.int (1 : Int32))) X2 Bd.notSynchronized (fun h => by rw [Bd.returns] at h; cases h) (fun fs hr => retN X2 hx (z := (1 : Int32)) (t := .boolean) Bd.returns (by simp) (hb hby d5_12) hr) e2 ⟨rfl, N0, rfl⟩ (by decide) (by decide)
theorem d10_0 : decode jdk_32_method_5_code 0 = .ok (.aload_n 0, 1) := by decide +kernel
theorem d10_1 : decode jdk_32_method_5_code 1 = .ok (.getfield 13, 3) := by decide +kernel
theorem d10_4 : decode jdk_32_method_5_code 4 = .ok (.ifnonnull 13, 3) := by decide +kernel
theorem d10_17 : decode jdk_32_method_5_code 17 = .ok (.aload_n 0, 1) := by decide +kernel
theorem d10_18 : decode jdk_32_method_5_code 18 = .ok (.getfield 13, 3) := by decide +kernel
theorem d10_21 : decode jdk_32_method_5_code 21 = .ok (.areturn, 1) := by decide +kernel
theorem ef_10 (m : MethodId) (a1 : Addr) : entryFrame m #[(.ref a1)] 1 = mkF m 0 #[.val (.ref a1)] [] := by first | (simp [entryFrame, mkF, argsToLocals, Value.category]; done) | rfl
def Q10 (Z : State) (a1 : Addr) (w : Addr) (h0 : Heap) (n0 : Nat) (v : Option Value) (h : Heap) (L : List Loc) : Prop := v = some (.ref w) ∧ Fr n0 L ∧ h = h0
set_option maxRecDepth 65536 in
set_option maxHeartbeats 40000000 in
theorem rm10 (l : Launch) (Z : State) (a0 : Array Value) (hw : ∀ d ∈ tables_1, d.before a0 Z = true) (ws : List Jvm.Cond) (a1 : Addr) (w : Addr) (h0 : Heap) (n0 : Nat) (Z0 : n0 ≤ h0.size) (Fu : Fld Z h0 a1 "java/util/Optional" "value" "Ljava/lang/Object;" (.ref w)) :
    MetFree l (⟨"java/util/Optional", "get", "()Ljava/lang/Object;"⟩ : MethodName) (head1 (Jvm.Cond.code (⟨"java/util/Optional", "get", "()Ljava/lang/Object;"⟩ : MethodName) jdk_32_method_5_code 1 (some (.object "java/lang/Object")) :: ws) ({ frames := 0, cells := 0, slots := 0, locals := 0 } : Room)) (fun a U => a = #[(.ref a1)] ∧ Z.Warmed39 U.vm ∧ U.heap = h0) (fun _ _ _ _ _ => True) (fun _ U o U' => ∃ v L, o = .returned v ∧ Q10 Z a1 w h0 n0 v U'.heap L ∧ FrameEnd U o U' L ({ frames := 0, cells := 0, slots := 0, locals := 0 } : Room).cells ({ frames := 0, cells := 0, slots := 0, locals := 0 } : Room).slots) := by
  refine MetFree.of_bodySF (plainFor_of_name own_pn0) hisR ?_
  intro p e s m args below meth c s₁ Bd hml0 hP hK
  obtain ⟨rfl, hZ, hh⟩ := hP
  have hx := Bd.exec
  have hby := Bd.bytes
  have hml : c.maxLocals = 1 := hml0
  have hown : s.vm.findClass "java/util/Optional" = some m.cls := findClass_of_methodNamed Bd.named
  have hnm := (name_of_methodNamed Bd.named Bd.method).1
  have X0 : Stand p l e ({ frames := 0, cells := 0, slots := 0, locals := 0 } : Room) s m #[(.ref a1)] below meth c s₁ [] 0 0 := Stand.of_body Bd
  have e0 : s₁.heap = h0 := by rw [← hh, Bd.state]; rfl
  have N0 := Fr.nil n0
  refine own_top (Q := Q10 Z a1 w h0 n0) (ef_10 m a1) ?_
  show own_G p.tables e below s₁ (mkF m 0 #[.val (.ref a1)] []) _
  refine own_go (fun t_ k_ => XS.aloadN X0.here hx rfl (hb hby d10_0) rfl rfl k_) ?_
  show own_G p.tables e below s₁ (mkF m 1 #[.val (.ref a1)] [(.ref a1)]) _
  obtain ⟨T1, X1, e1, st1⟩ := getF X0 hx hZ hown (host := "") (Or.inl (hw _ (List.mem_of_getElem? (i := 39) rfl))) Via.refl e0 Fu (g := (mkF m 1 #[.val (.ref a1)] [(.ref a1)])) rfl rfl (hb hby d10_1)
  refine own_go st1 ?_
  show own_G p.tables e below T1 (mkF m 4 #[.val (.ref a1)] [(.ref w)]) _
  refine own_go (fun t_ k_ => XS.ifnonnullYes X1.here hx rfl (pc0 := 4) (pc' := 17) rfl (hb hby d10_4) rfl (by decide) (by decide) k_) ?_
  show own_G p.tables e below T1 (mkF m 17 #[.val (.ref a1)] []) _
  refine own_go (fun t_ k_ => XS.aloadN X1.here hx rfl (hb hby d10_17) rfl rfl k_) ?_
  show own_G p.tables e below T1 (mkF m 18 #[.val (.ref a1)] [(.ref a1)]) _
  obtain ⟨T2, X2, e2, st2⟩ := getF X1 hx hZ hown (host := "") (Or.inl (hw _ (List.mem_of_getElem? (i := 39) rfl))) Via.refl e1 Fu (g := (mkF m 18 #[.val (.ref a1)] [(.ref a1)])) rfl rfl (hb hby d10_18)
  refine own_go st2 ?_
  show own_G p.tables e below T2 (mkF m 21 #[.val (.ref a1)] [(.ref w)]) _
  exact own_end (v := some (.ref w)) X2 Bd.notSynchronized (fun h => by rw [Bd.returns] at h; cases h) (fun fs hr => own_retR X2 hx rfl Bd.returns rfl (hb hby d10_21) hr) e2 ⟨rfl, N0, rfl⟩ (by decide) (by decide)
theorem d1_0 : decode method_3_code 0 = .ok (.lload_n 0, 1) := by decide +kernel
theorem d1_1 : decode method_3_code 1 = .ok (.lconst 0, 1) := by decide +kernel
theorem d1_2 : decode method_3_code 2 = .ok (.lcmp, 1) := by decide +kernel
theorem d1_3 : decode method_3_code 3 = .ok (.ifCond .ne 7, 3) := by decide +kernel
theorem d1_6 : decode method_3_code 6 = .ok (.getstatic 33, 3) := by decide +kernel
theorem d1_9 : decode method_3_code 9 = .ok (.areturn, 1) := by decide +kernel
theorem d1_10 : decode method_3_code 10 = .ok (.lload_n 0, 1) := by decide +kernel
theorem d1_11 : decode method_3_code 11 = .ok (.lconst 1, 1) := by decide +kernel
theorem d1_12 : decode method_3_code 12 = .ok (.lcmp, 1) := by decide +kernel
theorem d1_13 : decode method_3_code 13 = .ok (.ifCond .ne 7, 3) := by decide +kernel
theorem d1_16 : decode method_3_code 16 = .ok (.getstatic 37, 3) := by decide +kernel
theorem d1_19 : decode method_3_code 19 = .ok (.areturn, 1) := by decide +kernel
theorem d1_20 : decode method_3_code 20 = .ok (.lload_n 0, 1) := by decide +kernel
theorem d1_21 : decode method_3_code 21 = .ok (.ldc2_w 40, 3) := by decide +kernel
theorem d1_24 : decode method_3_code 24 = .ok (.lcmp, 1) := by decide +kernel
theorem d1_25 : decode method_3_code 25 = .ok (.ifCond .ne 7, 3) := by decide +kernel
theorem d1_28 : decode method_3_code 28 = .ok (.getstatic 42, 3) := by decide +kernel
theorem d1_31 : decode method_3_code 31 = .ok (.areturn, 1) := by decide +kernel
theorem d1_32 : decode method_3_code 32 = .ok (.aconst_null, 1) := by decide +kernel
theorem d1_33 : decode method_3_code 33 = .ok (.areturn, 1) := by decide +kernel
theorem ef_1 (m : MethodId) (q1 : Int64) : entryFrame m #[(.long q1)] 2 = mkF m 0 #[.val (.long q1), .second] [] := by first | (simp [entryFrame, mkF, argsToLocals, Value.category]; done) | rfl
def Q1 (Z : State) (q1 : Int64) (w0 w1 w2 : Addr) (h0 : Heap) (n0 : Nat) (v : Option Value) (h : Heap) (L : List Loc) : Prop := v = some (own_exp q1 w0 w1 w2) ∧ Fr n0 L ∧ h = h0
set_option maxRecDepth 65536 in
set_option maxHeartbeats 40000000 in
theorem rm1 (l : Launch) (Z : State) (a0 : Array Value) (hw : ∀ d ∈ tables_1, d.before a0 Z = true) (ws : List Jvm.Cond) (q1 : Int64) (w0 w1 w2 : Addr) (h0 : Heap) (n0 : Nat) (Z0 : n0 ≤ h0.size) (S_RELEASED : Sta Z h0 "com/example/atmost1/atmost1/server/UnlockStatus" "RELEASED" "Lcom/example/atmost1/atmost1/server/UnlockStatus;" (.ref w0)) (S_NOT_HELD : Sta Z h0 "com/example/atmost1/atmost1/server/UnlockStatus" "NOT_HELD" "Lcom/example/atmost1/atmost1/server/UnlockStatus;" (.ref w1)) (S_NOT_OWNER : Sta Z h0 "com/example/atmost1/atmost1/server/UnlockStatus" "NOT_OWNER" "Lcom/example/atmost1/atmost1/server/UnlockStatus;" (.ref w2)) :
    MetFree l (⟨"com/example/atmost1/atmost1/server/UnlockStatusOfPinLaw", "expectedFor", "(J)Lcom/example/atmost1/atmost1/server/UnlockStatus;"⟩ : MethodName) (head1 (Jvm.Cond.code (⟨"com/example/atmost1/atmost1/server/UnlockStatusOfPinLaw", "expectedFor", "(J)Lcom/example/atmost1/atmost1/server/UnlockStatus;"⟩ : MethodName) method_3_code 2 (some (.object "com/example/atmost1/atmost1/server/UnlockStatus")) :: ws) ({ frames := 0, cells := 0, slots := 0, locals := 0 } : Room)) (fun a U => a = #[(.long q1)] ∧ Z.Warmed39 U.vm ∧ U.heap = h0) (fun _ _ _ _ _ => True) (fun _ U o U' => ∃ v L, o = .returned v ∧ Q1 Z q1 w0 w1 w2 h0 n0 v U'.heap L ∧ FrameEnd U o U' L ({ frames := 0, cells := 0, slots := 0, locals := 0 } : Room).cells ({ frames := 0, cells := 0, slots := 0, locals := 0 } : Room).slots) := by
  refine MetFree.of_bodySF (plainFor_of_name own_pn3) hisR ?_
  intro p e s m args below meth c s₁ Bd hml0 hP hK
  obtain ⟨rfl, hZ, hh⟩ := hP
  have hx := Bd.exec
  have hby := Bd.bytes
  have hml : c.maxLocals = 2 := hml0
  have hown : s.vm.findClass "com/example/atmost1/atmost1/server/UnlockStatusOfPinLaw" = some m.cls := findClass_of_methodNamed Bd.named
  have hnm := (name_of_methodNamed Bd.named Bd.method).1
  have X0 : Stand p l e ({ frames := 0, cells := 0, slots := 0, locals := 0 } : Room) s m #[(.long q1)] below meth c s₁ [] 0 0 := Stand.of_body Bd
  have e0 : s₁.heap = h0 := by rw [← hh, Bd.state]; rfl
  have N0 := Fr.nil n0
  refine own_top (Q := Q1 Z q1 w0 w1 w2 h0 n0) (ef_1 m q1) ?_
  show own_G p.tables e below s₁ (mkF m 0 #[.val (.long q1), .second] []) _
  refine own_go (fun t_ k_ => XS.lloadN X0.here hx rfl (hb hby d1_0) rfl k_) ?_
  show own_G p.tables e below s₁ (mkF m 1 #[.val (.long q1), .second] [(.long q1)]) _
  refine own_go (fun t_ k_ => XS.lconst X0.here hx rfl (hb hby d1_1) k_) ?_
  show own_G p.tables e below s₁ (mkF m 2 #[.val (.long q1), .second] [(.long (0 : Int64)), (.long q1)]) _
  refine own_go (fun t_ k_ => XS.lcmp X0.here hx rfl (hb hby d1_2) rfl k_) ?_
  show own_G p.tables e below s₁ (mkF m 3 #[.val (.long q1), .second] [(.int (lcmpW q1 (0 : Int64)))]) _
  by_cases hc3_1 : q1 = (0 : Int64)
  · skip
    refine own_go (fun t_ k_ => XS.ifNo X0.here hx rfl (hb hby d1_3) rfl ((if0 _ _).trans (teq ((lw_eq q1 (0 : Int64)).mpr hc3_1)).2) k_) ?_
    show own_G p.tables e below s₁ (mkF m 6 #[.val (.long q1), .second] []) _
    obtain ⟨T2, X2, e2, st2⟩ := getS2 X0 hx hZ hown (host := "") (Or.inl (hw _ (List.mem_of_getElem? (i := 71) rfl))) Via.refl e0 S_RELEASED (g := (mkF m 6 #[.val (.long q1), .second] [])) rfl (hb hby d1_6)
    refine own_go st2 ?_
    show own_G p.tables e below T2 (mkF m 9 #[.val (.long q1), .second] [(.ref w0)]) _
    exact own_end (v := some (.ref w0)) X2 Bd.notSynchronized (fun h => by rw [Bd.returns] at h; cases h) (fun fs hr => own_retR X2 hx rfl Bd.returns rfl (hb hby d1_9) hr) e2 ⟨congrArg some (by unfold own_exp; rw [if_pos hc3_1]), N0, rfl⟩ (by decide) (by decide)
  · skip
    refine own_go (fun t_ k_ => XS.ifYes X0.here hx rfl (pc0 := 3) (pc' := 10) rfl (hb hby d1_3) rfl ((if0 _ _).trans (feq (mt (lw_eq q1 (0 : Int64)).mp hc3_1)).2) (by decide) (by decide) k_) ?_
    show own_G p.tables e below s₁ (mkF m 10 #[.val (.long q1), .second] []) _
    refine own_go (fun t_ k_ => XS.lloadN X0.here hx rfl (hb hby d1_10) rfl k_) ?_
    show own_G p.tables e below s₁ (mkF m 11 #[.val (.long q1), .second] [(.long q1)]) _
    refine own_go (fun t_ k_ => XS.lconst X0.here hx rfl (hb hby d1_11) k_) ?_
    show own_G p.tables e below s₁ (mkF m 12 #[.val (.long q1), .second] [(.long (1 : Int64)), (.long q1)]) _
    refine own_go (fun t_ k_ => XS.lcmp X0.here hx rfl (hb hby d1_12) rfl k_) ?_
    show own_G p.tables e below s₁ (mkF m 13 #[.val (.long q1), .second] [(.int (lcmpW q1 (1 : Int64)))]) _
    by_cases hc13_3 : q1 = (1 : Int64)
    · skip
      refine own_go (fun t_ k_ => XS.ifNo X0.here hx rfl (hb hby d1_13) rfl ((if0 _ _).trans (teq ((lw_eq q1 (1 : Int64)).mpr hc13_3)).2) k_) ?_
      show own_G p.tables e below s₁ (mkF m 16 #[.val (.long q1), .second] []) _
      obtain ⟨T4, X4, e4, st4⟩ := getS2 X0 hx hZ hown (host := "") (Or.inl (hw _ (List.mem_of_getElem? (i := 70) rfl))) Via.refl e0 S_NOT_HELD (g := (mkF m 16 #[.val (.long q1), .second] [])) rfl (hb hby d1_16)
      refine own_go st4 ?_
      show own_G p.tables e below T4 (mkF m 19 #[.val (.long q1), .second] [(.ref w1)]) _
      exact own_end (v := some (.ref w1)) X4 Bd.notSynchronized (fun h => by rw [Bd.returns] at h; cases h) (fun fs hr => own_retR X4 hx rfl Bd.returns rfl (hb hby d1_19) hr) e4 ⟨congrArg some (by unfold own_exp; rw [if_neg hc3_1, if_pos hc13_3]), N0, rfl⟩ (by decide) (by decide)
    · skip
      refine own_go (fun t_ k_ => XS.ifYes X0.here hx rfl (pc0 := 13) (pc' := 20) rfl (hb hby d1_13) rfl ((if0 _ _).trans (feq (mt (lw_eq q1 (1 : Int64)).mp hc13_3)).2) (by decide) (by decide) k_) ?_
      show own_G p.tables e below s₁ (mkF m 20 #[.val (.long q1), .second] []) _
      refine own_go (fun t_ k_ => XS.lloadN X0.here hx rfl (hb hby d1_20) rfl k_) ?_
      show own_G p.tables e below s₁ (mkF m 21 #[.val (.long q1), .second] [(.long q1)]) _
      refine own_go (fun t_ k_ => X0.ldc2Long hx hown (mvT hZ (hw _ (List.mem_of_getElem? (i := 4) rfl))) (g := (mkF m 21 #[.val (.long q1), .second] [(.long q1)])) rfl (hb hby d1_21) _ k_) ?_
      show own_G p.tables e below s₁ (mkF m 24 #[.val (.long q1), .second] [(.long (2 : Int64)), (.long q1)]) _
      refine own_go (fun t_ k_ => XS.lcmp X0.here hx rfl (hb hby d1_24) rfl k_) ?_
      show own_G p.tables e below s₁ (mkF m 25 #[.val (.long q1), .second] [(.int (lcmpW q1 (2 : Int64)))]) _
      by_cases hc25_5 : q1 = (2 : Int64)
      · skip
        refine own_go (fun t_ k_ => XS.ifNo X0.here hx rfl (hb hby d1_25) rfl ((if0 _ _).trans (teq ((lw_eq q1 (2 : Int64)).mpr hc25_5)).2) k_) ?_
        show own_G p.tables e below s₁ (mkF m 28 #[.val (.long q1), .second] []) _
        obtain ⟨T6, X6, e6, st6⟩ := getS2 X0 hx hZ hown (host := "") (Or.inl (hw _ (List.mem_of_getElem? (i := 41) rfl))) Via.refl e0 S_NOT_OWNER (g := (mkF m 28 #[.val (.long q1), .second] [])) rfl (hb hby d1_28)
        refine own_go st6 ?_
        show own_G p.tables e below T6 (mkF m 31 #[.val (.long q1), .second] [(.ref w2)]) _
        exact own_end (v := some (.ref w2)) X6 Bd.notSynchronized (fun h => by rw [Bd.returns] at h; cases h) (fun fs hr => own_retR X6 hx rfl Bd.returns rfl (hb hby d1_31) hr) e6 ⟨congrArg some (by unfold own_exp; rw [if_neg hc3_1, if_neg hc13_3, if_pos hc25_5]), N0, rfl⟩ (by decide) (by decide)
      · skip
        refine own_go (fun t_ k_ => XS.ifYes X0.here hx rfl (pc0 := 25) (pc' := 32) rfl (hb hby d1_25) rfl ((if0 _ _).trans (feq (mt (lw_eq q1 (2 : Int64)).mp hc25_5)).2) (by decide) (by decide) k_) ?_
        show own_G p.tables e below s₁ (mkF m 32 #[.val (.long q1), .second] []) _
        refine own_go (fun t_ k_ => XS.aconstNull X0.here hx rfl (hb hby d1_32) k_) ?_
        show own_G p.tables e below s₁ (mkF m 33 #[.val (.long q1), .second] [.null]) _
        exact own_end (v := some .null) X0 Bd.notSynchronized (fun h => by rw [Bd.returns] at h; cases h) (fun fs hr => own_retR X0 hx rfl Bd.returns rfl (hb hby d1_33) hr) e0 ⟨congrArg some (by unfold own_exp; rw [if_neg hc3_1, if_neg hc13_3, if_neg hc25_5]), N0, rfl⟩ (by decide) (by decide)
theorem ef_0 (m : MethodId) (p1 : Int64) (p2 : Int32) : entryFrame m #[(.long p1), (.int p2)] maxLocals = mkF m 0 #[.val (.long p1), .second, .val (.int p2), .unset, .unset, .unset, .unset, .unset] [] := by first | (simp [entryFrame, mkF, argsToLocals, Value.category, maxLocals]; done) | rfl
def Q0 (Z : State) (p1 : Int64) (p2 : Int32) (aV : Addr) (clV : Cell) (w0 w1 w2 aE : Addr) (h0 : Heap) (n0 : Nat) (v : Option Value) (h : Heap) (L : List Loc) : Prop := v = some (.int (1 : Int32)) ∧ Fr n0 L
set_option maxRecDepth 65536 in
set_option maxHeartbeats 40000000 in
theorem rm0 (l : Launch) (Z : State) (a0 : Array Value) (hw : ∀ d ∈ tables_1, d.before a0 Z = true) (ws : List Jvm.Cond) (p1 : Int64) (p2 : Int32) (aV : Addr) (clV : Cell) (w0 w1 w2 aE : Addr) (h0 : Heap) (n0 : Nat) (Z0 : n0 ≤ h0.size) (S_V : Sta Z h0 "com/example/atmost1/atmost1/server/UnlockStatus" "$VALUES" "[Lcom/example/atmost1/atmost1/server/UnlockStatus;" (.ref aV)) (A_V : Arr Z h0 aV clV (.object "com/example/atmost1/atmost1/server/UnlockStatus")) (E_V : Exa Z h0 aV "[Lcom/example/atmost1/atmost1/server/UnlockStatus;") (Fit_V : FitC Z clV) (sz_V : clV.slots.size = 3) (l0 : clV.slots[(0 : Int32).toNatClampNeg]? = some (.ref w0)) (l1 : clV.slots[(1 : Int32).toNatClampNeg]? = some (.ref w1)) (l2 : clV.slots[(2 : Int32).toNatClampNeg]? = some (.ref w2)) (F0 : Fld Z h0 w0 "com/example/atmost1/atmost1/server/UnlockStatus" "code" "I" (.int (0 : Int32))) (F1 : Fld Z h0 w1 "com/example/atmost1/atmost1/server/UnlockStatus" "code" "I" (.int (1 : Int32))) (F2 : Fld Z h0 w2 "com/example/atmost1/atmost1/server/UnlockStatus" "code" "I" (.int (2 : Int32))) (S_E : Sta Z h0 "java/util/Optional" "EMPTY" "Ljava/util/Optional;" (.ref aE)) (E_E : Exa Z h0 aE "java/util/Optional") (F_E : Fld Z h0 aE "java/util/Optional" "value" "Ljava/lang/Object;" .null) (S_RELEASED : Sta Z h0 "com/example/atmost1/atmost1/server/UnlockStatus" "RELEASED" "Lcom/example/atmost1/atmost1/server/UnlockStatus;" (.ref w0)) (S_NOT_HELD : Sta Z h0 "com/example/atmost1/atmost1/server/UnlockStatus" "NOT_HELD" "Lcom/example/atmost1/atmost1/server/UnlockStatus;" (.ref w1)) (S_NOT_OWNER : Sta Z h0 "com/example/atmost1/atmost1/server/UnlockStatus" "NOT_OWNER" "Lcom/example/atmost1/atmost1/server/UnlockStatus;" (.ref w2)) (E0 : Exa Z h0 w0 "com/example/atmost1/atmost1/server/UnlockStatus") (E1 : Exa Z h0 w1 "com/example/atmost1/atmost1/server/UnlockStatus") (E2 : Exa Z h0 w2 "com/example/atmost1/atmost1/server/UnlockStatus") :
    MetFree l x (head1 (Jvm.Cond.code x code maxLocals ret :: ws) room_1) (fun a U => a = #[(.long p1), (.int p2)] ∧ Z.Warmed39 U.vm ∧ U.heap = h0) (fun _ _ _ _ _ => True) (fun _ U o U' => ∃ v L, o = .returned v ∧ Q0 Z p1 p2 aV clV w0 w1 w2 aE h0 n0 v U'.heap L ∧ FrameEnd U o U' L 16 128) := by
  refine MetFree.of_bodySF (plainFor_of_name own_pn3) hisR ?_
  intro p e s m args below meth c s₁ Bd hml0 hP hK
  obtain ⟨rfl, hZ, hh⟩ := hP
  have hx := Bd.exec
  have hby := Bd.bytes
  have hml : c.maxLocals = 8 := hml0
  have hown : s.vm.findClass "com/example/atmost1/atmost1/server/UnlockStatusOfPinLaw" = some m.cls := findClass_of_methodNamed Bd.named
  have hnm := (name_of_methodNamed Bd.named Bd.method).1
  have X0 : Stand p l e room_1 s m #[(.long p1), (.int p2)] below meth c s₁ [] 0 0 := Stand.of_body Bd
  have e0 : s₁.heap = h0 := by rw [← hh, Bd.state]; rfl
  have N0 := Fr.nil n0
  refine own_top (Q := Q0 Z p1 p2 aV clV w0 w1 w2 aE h0 n0) (ef_0 m p1 p2) ?_
  have tail : ∀ (q : Int64), own_G p.tables e below s₁ (mkF m 17 #[.val (.long p1), .second, .val (.int p2), .val (.long q), .second, .unset, .unset, .unset] []) (own_P below s (Q0 Z p1 p2 aV clV w0 w1 w2 aE h0 n0) 16 128) := by
    intro q
    by_cases c0 : (0 : Int64) = q
    · subst c0
      have hv : own_val (0 : Int64) w0 w1 w2 = .ref w0 := by simp [own_val]
      have hx_ : own_exp (0 : Int64) w0 w1 w2 = .ref w0 := by simp [own_exp]
      show own_G p.tables e below s₁ (mkF m 17 #[.val (.long p1), .second, .val (.int p2), .val (.long (0 : Int64)), .second, .unset, .unset, .unset] []) _
      refine own_go (fun t_ k_ => XS.lloadN X0.here hx rfl (hb hby at_17) rfl k_) ?_
      show own_G p.tables e below s₁ (mkF m 18 #[.val (.long p1), .second, .val (.int p2), .val (.long (0 : Int64)), .second, .unset, .unset, .unset] [(.long (0 : Int64))]) _
      obtain ⟨_, _, ⟨T1, L1, k1, n1⟩, -, X1, ⟨Lc1, hQ1, l1, y1, z1⟩, st1⟩ := Jvm.LawKit.callS X0 hx (y := (⟨"com/example/atmost1/atmost1/server/UnlockStatusOfPinLaw", "expectedFor", "(J)Lcom/example/atmost1/atmost1/server/UnlockStatus;"⟩ : MethodName)) hown (mvT hZ (hw _ (List.mem_of_getElem? (i := 0) rfl))) (mvT hZ (hw _ (List.mem_of_getElem? (i := 1) rfl))) (mvT hZ (hw _ (List.mem_of_getElem? (i := 2) rfl))) (mvT hZ (hw _ (List.mem_of_getElem? (i := 3) rfl))) (by decide) (backOf (W := 0) (rm1 l Z a0 hw [] (0 : Int64) w0 w1 w2 h0 n0 Z0 S_RELEASED S_NOT_HELD S_NOT_OWNER) hZ (hw _ (List.mem_of_getElem? (i := 3) rfl)) (hw _ (List.mem_of_getElem? (i := 2) rfl)) (by decide) (by decide)) (g := (mkF m 18 #[.val (.long p1), .second, .val (.int p2), .val (.long (0 : Int64)), .second, .unset, .unset, .unset] [(.long (0 : Int64))])) rfl (by rw [hml]; rfl) (argsL := [(.long (0 : Int64))]) (rest := []) (lenOf own_pd5 rfl) rfl (by show 2 * 0 + _ ≤ _; exact Nat.le_of_eq rfl) (hb hby at_18) (fun _ _ => ⟨rfl, e0, (by decide : 0 + 0 ≤ _), (by decide : 0 + 0 ≤ _)⟩)
      dsimp only [Pt.U, Pt.locs, Pt.cells, Pt.slots] at X1 l1 y1 z1 st1 hQ1
      subst l1 y1 z1
      obtain ⟨rfl, N1q, e1⟩ := hQ1
      have N1 := Fr.app N0 N1q
      refine own_go st1 ?_
      show own_G p.tables e below T1 (mkF m 21 #[.val (.long p1), .second, .val (.int p2), .val (.long (0 : Int64)), .second, .unset, .unset, .unset] [(own_exp (0 : Int64) w0 w1 w2)]) _
      rw [hx_]
      show own_G p.tables e below T1 (mkF m 21 #[.val (.long p1), .second, .val (.int p2), .val (.long (0 : Int64)), .second, .unset, .unset, .unset] [(.ref w0)]) _
      refine own_go (fun t_ k_ => XS.astore X1.here hx rfl (hb hby at_21) rfl rfl (l' := #[.val (.long p1), .second, .val (.int p2), .val (.long (0 : Int64)), .second, .val (.ref w0), .unset, .unset]) rfl k_) ?_
      show own_G p.tables e below T1 (mkF m 23 #[.val (.long p1), .second, .val (.int p2), .val (.long (0 : Int64)), .second, .val (.ref w0), .unset, .unset] []) _
      refine own_go (fun t_ k_ => XS.lloadN X1.here hx rfl (hb hby at_23) rfl k_) ?_
      show own_G p.tables e below T1 (mkF m 24 #[.val (.long p1), .second, .val (.int p2), .val (.long (0 : Int64)), .second, .val (.ref w0), .unset, .unset] [(.long (0 : Int64))]) _
      obtain ⟨_, _, ⟨T2, L2, k2, n2⟩, -, X2, ⟨Lc2, hQ2, l2, y2, z2⟩, st2⟩ := Jvm.LawKit.callS X1 hx (y := (⟨"com/example/atmost1/atmost1/server/UnlockStatus", "of", "(J)Ljava/util/Optional;"⟩ : MethodName)) hown (mvT hZ (hw _ (List.mem_of_getElem? (i := 5) rfl))) (mvT hZ (hw _ (List.mem_of_getElem? (i := 6) rfl))) (mvT hZ (hw _ (List.mem_of_getElem? (i := 7) rfl))) (mvT hZ (hw _ (List.mem_of_getElem? (i := 8) rfl))) (by decide) (backOf (W := 0) (rm2 l Z a0 hw [] (0 : Int64) aV clV w0 w1 w2 aE h0 n0 Z0 S_V A_V E_V Fit_V sz_V l0 l1 l2 F0 F1 F2 S_E E_E F_E) hZ (hw _ (List.mem_of_getElem? (i := 8) rfl)) (hw _ (List.mem_of_getElem? (i := 7) rfl)) (by decide) (by decide)) (g := (mkF m 24 #[.val (.long p1), .second, .val (.int p2), .val (.long (0 : Int64)), .second, .val (.ref w0), .unset, .unset] [(.long (0 : Int64))])) rfl (by rw [hml]; rfl) (argsL := [(.long (0 : Int64))]) (rest := []) (lenOf own_pd6 rfl) rfl (by show 2 * 0 + _ ≤ _; exact Nat.le_of_eq rfl) (hb hby at_24) (fun _ _ => ⟨rfl, e1, (by decide : 0 + 2 ≤ _), (by decide : 0 + 4 ≤ _)⟩)
      dsimp only [Pt.U, Pt.locs, Pt.cells, Pt.slots] at X2 l2 y2 z2 st2 hQ2
      subst l2 y2 z2
      obtain ⟨o2, rfl, N2q, K2, Eo2, Fo2⟩ := hQ2
      have N2 := Fr.app N1 N2q
      refine own_go st2 ?_
      show own_G p.tables e below T2 (mkF m 27 #[.val (.long p1), .second, .val (.int p2), .val (.long (0 : Int64)), .second, .val (.ref w0), .unset, .unset] [(.ref o2)]) _
      rw [hv] at Fo2
      refine own_go (fun t_ k_ => XS.astore X2.here hx rfl (hb hby at_27) rfl rfl (l' := #[.val (.long p1), .second, .val (.int p2), .val (.long (0 : Int64)), .second, .val (.ref w0), .val (.ref o2), .unset]) rfl k_) ?_
      show own_G p.tables e below T2 (mkF m 29 #[.val (.long p1), .second, .val (.int p2), .val (.long (0 : Int64)), .second, .val (.ref w0), .val (.ref o2), .unset] []) _
      refine own_go (fun t_ k_ => XS.aload X2.here hx rfl (hb hby at_29) rfl rfl k_) ?_
      show own_G p.tables e below T2 (mkF m 31 #[.val (.long p1), .second, .val (.int p2), .val (.long (0 : Int64)), .second, .val (.ref w0), .val (.ref o2), .unset] [(.ref w0)]) _
      refine own_go (fun t_ k_ => XS.ifnonnullYes X2.here hx rfl (pc0 := 31) (pc' := 48) rfl (hb hby at_31) rfl (by decide) (by decide) k_) ?_
      show own_G p.tables e below T2 (mkF m 48 #[.val (.long p1), .second, .val (.int p2), .val (.long (0 : Int64)), .second, .val (.ref w0), .val (.ref o2), .unset] []) _
      refine own_go (fun t_ k_ => XS.aload X2.here hx rfl (hb hby at_48) rfl rfl k_) ?_
      show own_G p.tables e below T2 (mkF m 50 #[.val (.long p1), .second, .val (.int p2), .val (.long (0 : Int64)), .second, .val (.ref w0), .val (.ref o2), .unset] [(.ref o2)]) _
      have f3 : n0 ≤ T2.heap.size := (Nat.le_trans Z0 K2.1)
      have f4 : Exa Z T2.heap w0 "com/example/atmost1/atmost1/server/UnlockStatus" := (E0.keep K2)
      have f5 : Fld Z T2.heap w0 "com/example/atmost1/atmost1/server/UnlockStatus" "code" "I" (.int (0 : Int32)) := (F0.keep K2 List.not_mem_nil)
      have f6 : Exa Z T2.heap w1 "com/example/atmost1/atmost1/server/UnlockStatus" := (E1.keep K2)
      have f7 : Fld Z T2.heap w1 "com/example/atmost1/atmost1/server/UnlockStatus" "code" "I" (.int (1 : Int32)) := (F1.keep K2 List.not_mem_nil)
      have f8 : Exa Z T2.heap w2 "com/example/atmost1/atmost1/server/UnlockStatus" := (E2.keep K2)
      have f9 : Fld Z T2.heap w2 "com/example/atmost1/atmost1/server/UnlockStatus" "code" "I" (.int (2 : Int32)) := (F2.keep K2 List.not_mem_nil)
      obtain ⟨cq10, kq10, q10a, q10b, q10c⟩ := isOf hZ rfl Eo2
      obtain ⟨_, _, ⟨T10, L10, k10, n10⟩, -, X10, ⟨Lc10, hQ10, l10, y10, z10⟩, st10⟩ := X2.virtualBack hx (y := (⟨"java/util/Optional", "isPresent", "()Z"⟩ : MethodName)) (z := (⟨"java/util/Optional", "isPresent", "()Z"⟩ : MethodName)) hown (mvT hZ (hw _ (List.mem_of_getElem? (i := 34) rfl))) (mvT hZ (hw _ (List.mem_of_getElem? (i := 35) rfl))) (notFace_of_selects (args := #[]) (mvT hZ (hw _ (List.mem_of_getElem? (i := 37) rfl)))) (mvT hZ (hw _ (List.mem_of_getElem? (i := 37) rfl))) (mvT hZ (hw _ (List.mem_of_getElem? (i := 36) rfl))) (by decide) (backOf (W := 0) (rm5 l Z a0 hw [] o2 (.ref w0) T2.heap n0 f3 Fo2 rfl) hZ (hw _ (List.mem_of_getElem? (i := 38) rfl)) (hw _ (List.mem_of_getElem? (i := 11) rfl)) (by decide) (by decide)) q10a q10c (g := (mkF m 50 #[.val (.long p1), .second, .val (.int p2), .val (.long (0 : Int64)), .second, .val (.ref w0), .val (.ref o2), .unset] [(.ref o2)])) rfl (by rw [hml]; rfl) (Steps.refl _) (argsL := []) (rest := []) (lenOf own_pd7 rfl) rfl (by show 2 * 0 + _ ≤ _; exact Nat.le_of_eq rfl) (hb hby at_50) (fun _ _ => ⟨rfl, rfl, (by decide : 2 + 0 ≤ _), (by decide : 4 + 0 ≤ _)⟩)
      dsimp only [Pt.U, Pt.locs, Pt.cells, Pt.slots] at X10 l10 y10 z10 st10 hQ10
      subst l10 y10 z10
      obtain ⟨rfl, N10q, e10⟩ := hQ10
      have N10 := Fr.app N2 N10q
      refine own_go (fun t_ k_ => st10.trans k_) ?_
      show own_G p.tables e below T10 (mkF m 53 #[.val (.long p1), .second, .val (.int p2), .val (.long (0 : Int64)), .second, .val (.ref w0), .val (.ref o2), .unset] [(.int (1 : Int32))]) _
      refine own_go (fun t_ k_ => XS.ifYes X10.here hx rfl (pc0 := 53) (pc' := 58) rfl (hb hby at_53) rfl ((if0 _ _).trans (feq (by decide : ¬ ((1 : Int32) = (0 : Int32)))).2) (by decide) (by decide) k_) ?_
      show own_G p.tables e below T10 (mkF m 58 #[.val (.long p1), .second, .val (.int p2), .val (.long (0 : Int64)), .second, .val (.ref w0), .val (.ref o2), .unset] []) _
      refine own_go (fun t_ k_ => XS.aload X10.here hx rfl (hb hby at_58) rfl rfl k_) ?_
      show own_G p.tables e below T10 (mkF m 60 #[.val (.long p1), .second, .val (.int p2), .val (.long (0 : Int64)), .second, .val (.ref w0), .val (.ref o2), .unset] [(.ref o2)]) _
      obtain ⟨cq11, kq11, q11a, q11b, q11c⟩ := isOf hZ e10 Eo2
      obtain ⟨_, _, ⟨T11, L11, k11, n11⟩, -, X11, ⟨Lc11, hQ11, l11, y11, z11⟩, st11⟩ := X10.virtualBack hx (y := (⟨"java/util/Optional", "get", "()Ljava/lang/Object;"⟩ : MethodName)) (z := (⟨"java/util/Optional", "get", "()Ljava/lang/Object;"⟩ : MethodName)) hown (mvT hZ (hw _ (List.mem_of_getElem? (i := 58) rfl))) (mvT hZ (hw _ (List.mem_of_getElem? (i := 59) rfl))) (notFace_of_selects (args := #[]) (mvT hZ (hw _ (List.mem_of_getElem? (i := 61) rfl)))) (mvT hZ (hw _ (List.mem_of_getElem? (i := 61) rfl))) (mvT hZ (hw _ (List.mem_of_getElem? (i := 60) rfl))) (by decide) (backOf (W := 0) (rm10 l Z a0 hw [] o2 w0 T2.heap n0 f3 Fo2) hZ (hw _ (List.mem_of_getElem? (i := 62) rfl)) (hw _ (List.mem_of_getElem? (i := 11) rfl)) (by decide) (by decide)) q11a q11c (g := (mkF m 60 #[.val (.long p1), .second, .val (.int p2), .val (.long (0 : Int64)), .second, .val (.ref w0), .val (.ref o2), .unset] [(.ref o2)])) rfl (by rw [hml]; rfl) (Steps.refl _) (argsL := []) (rest := []) (lenOf own_pd8 rfl) rfl (by show 2 * 0 + _ ≤ _; exact Nat.le_of_eq rfl) (hb hby at_60) (fun _ _ => ⟨rfl, e10, (by decide : 2 + 0 ≤ _), (by decide : 4 + 0 ≤ _)⟩)
      dsimp only [Pt.U, Pt.locs, Pt.cells, Pt.slots] at X11 l11 y11 z11 st11 hQ11
      subst l11 y11 z11
      obtain ⟨rfl, N11q, e11⟩ := hQ11
      have N11 := Fr.app N10 N11q
      refine own_go (fun t_ k_ => st11.trans k_) ?_
      show own_G p.tables e below T11 (mkF m 63 #[.val (.long p1), .second, .val (.int p2), .val (.long (0 : Int64)), .second, .val (.ref w0), .val (.ref o2), .unset] [(.ref w0)]) _
      obtain ⟨T12, X12, e12, st12⟩ := castY X11 hx hZ hown (hw _ (List.mem_of_getElem? (i := 63) rfl)) e11 (Ins.self f4) (g := (mkF m 63 #[.val (.long p1), .second, .val (.int p2), .val (.long (0 : Int64)), .second, .val (.ref w0), .val (.ref o2), .unset] [(.ref w0)])) rfl rfl (hb hby at_63)
      refine own_go st12 ?_
      show own_G p.tables e below T12 (mkF m 66 #[.val (.long p1), .second, .val (.int p2), .val (.long (0 : Int64)), .second, .val (.ref w0), .val (.ref o2), .unset] [(.ref w0)]) _
      refine own_go (fun t_ k_ => XS.astore X12.here hx rfl (hb hby at_66) rfl rfl (l' := #[.val (.long p1), .second, .val (.int p2), .val (.long (0 : Int64)), .second, .val (.ref w0), .val (.ref o2), .val (.ref w0)]) rfl k_) ?_
      show own_G p.tables e below T12 (mkF m 68 #[.val (.long p1), .second, .val (.int p2), .val (.long (0 : Int64)), .second, .val (.ref w0), .val (.ref o2), .val (.ref w0)] []) _
      refine own_go (fun t_ k_ => XS.aload X12.here hx rfl (hb hby at_68) rfl rfl k_) ?_
      show own_G p.tables e below T12 (mkF m 70 #[.val (.long p1), .second, .val (.int p2), .val (.long (0 : Int64)), .second, .val (.ref w0), .val (.ref o2), .val (.ref w0)] [(.ref w0)]) _
      refine own_go (fun t_ k_ => XS.aload X12.here hx rfl (hb hby at_70) rfl rfl k_) ?_
      show own_G p.tables e below T12 (mkF m 72 #[.val (.long p1), .second, .val (.int p2), .val (.long (0 : Int64)), .second, .val (.ref w0), .val (.ref o2), .val (.ref w0)] [(.ref w0), (.ref w0)]) _
      refine own_go (fun t_ k_ => Jvm.RoadKit.acmp (g := (mkF m 72 #[.val (.long p1), .second, .val (.int p2), .val (.long (0 : Int64)), .second, .val (.ref w0), .val (.ref o2), .val (.ref w0)] [(.ref w0), (.ref w0)])) X12 hx rfl rfl rfl (pc0 := 72) (pc' := 75) (same := true) rfl (hb hby at_72) rfl (decide_eq_true rfl) (by decide) (by decide) k_) ?_
      show own_G p.tables e below T12 (mkF m 75 #[.val (.long p1), .second, .val (.int p2), .val (.long (0 : Int64)), .second, .val (.ref w0), .val (.ref o2), .val (.ref w0)] []) _
      refine own_go (fun t_ k_ => XS.aload X12.here hx rfl (hb hby at_75) rfl rfl k_) ?_
      show own_G p.tables e below T12 (mkF m 77 #[.val (.long p1), .second, .val (.int p2), .val (.long (0 : Int64)), .second, .val (.ref w0), .val (.ref o2), .val (.ref w0)] [(.ref w0)]) _
      obtain ⟨cq13, kq13, q13a, q13b, q13c⟩ := isOf hZ e12 f4
      obtain ⟨_, _, ⟨T13, L13, k13, n13⟩, -, X13, ⟨Lc13, hQ13, l13, y13, z13⟩, st13⟩ := X12.virtualBack hx (y := (⟨"com/example/atmost1/atmost1/server/UnlockStatus", "code", "()I"⟩ : MethodName)) (z := (⟨"com/example/atmost1/atmost1/server/UnlockStatus", "code", "()I"⟩ : MethodName)) hown (mvT hZ (hw _ (List.mem_of_getElem? (i := 65) rfl))) (mvT hZ (hw _ (List.mem_of_getElem? (i := 66) rfl))) (notFace_of_selects (args := #[]) (mvT hZ (hw _ (List.mem_of_getElem? (i := 68) rfl)))) (mvT hZ (hw _ (List.mem_of_getElem? (i := 68) rfl))) (mvT hZ (hw _ (List.mem_of_getElem? (i := 67) rfl))) (by decide) (backOf (W := 0) (rm11 l Z a0 hw [] w0 (0 : Int32) T2.heap n0 f3 f5) hZ (hw _ (List.mem_of_getElem? (i := 69) rfl)) (hw _ (List.mem_of_getElem? (i := 7) rfl)) (by decide) (by decide)) q13a q13c (g := (mkF m 77 #[.val (.long p1), .second, .val (.int p2), .val (.long (0 : Int64)), .second, .val (.ref w0), .val (.ref o2), .val (.ref w0)] [(.ref w0)])) rfl (by rw [hml]; rfl) (Steps.refl _) (argsL := []) (rest := []) (lenOf own_pd9 rfl) rfl (by show 2 * 0 + _ ≤ _; exact Nat.le_of_eq rfl) (hb hby at_77) (fun _ _ => ⟨rfl, e12, (by decide : 2 + 0 ≤ _), (by decide : 4 + 0 ≤ _)⟩)
      dsimp only [Pt.U, Pt.locs, Pt.cells, Pt.slots] at X13 l13 y13 z13 st13 hQ13
      subst l13 y13 z13
      obtain ⟨rfl, N13q, e13⟩ := hQ13
      have N13 := Fr.app N11 N13q
      refine own_go (fun t_ k_ => st13.trans k_) ?_
      show own_G p.tables e below T13 (mkF m 80 #[.val (.long p1), .second, .val (.int p2), .val (.long (0 : Int64)), .second, .val (.ref w0), .val (.ref o2), .val (.ref w0)] [(.int (0 : Int32))]) _
      refine own_go (fun t_ k_ => XS.i2l X13.here hx rfl (hb hby at_80) rfl k_) ?_
      show own_G p.tables e below T13 (mkF m 81 #[.val (.long p1), .second, .val (.int p2), .val (.long (0 : Int64)), .second, .val (.ref w0), .val (.ref o2), .val (.ref w0)] [(.long (0 : Int64))]) _
      refine own_go (fun t_ k_ => XS.lloadN X13.here hx rfl (hb hby at_81) rfl k_) ?_
      show own_G p.tables e below T13 (mkF m 82 #[.val (.long p1), .second, .val (.int p2), .val (.long (0 : Int64)), .second, .val (.ref w0), .val (.ref o2), .val (.ref w0)] [(.long (0 : Int64)), (.long (0 : Int64))]) _
      refine own_go (fun t_ k_ => XS.lcmp X13.here hx rfl (hb hby at_82) rfl k_) ?_
      show own_G p.tables e below T13 (mkF m 83 #[.val (.long p1), .second, .val (.int p2), .val (.long (0 : Int64)), .second, .val (.ref w0), .val (.ref o2), .val (.ref w0)] [(.int (lcmpW (0 : Int64) (0 : Int64)))]) _
      refine own_go (fun t_ k_ => XS.ifNo X13.here hx rfl (hb hby at_83) rfl ((if0 _ _).trans (teq ((lw_eq (0 : Int64) (0 : Int64)).mpr rfl)).2) k_) ?_
      show own_G p.tables e below T13 (mkF m 86 #[.val (.long p1), .second, .val (.int p2), .val (.long (0 : Int64)), .second, .val (.ref w0), .val (.ref o2), .val (.ref w0)] []) _
      refine own_go (fun t_ k_ => XS.iconst X13.here hx rfl (hb hby at_86) k_) ?_
      show own_G p.tables e below T13 (mkF m 87 #[.val (.long p1), .second, .val (.int p2), .val (.long (0 : Int64)), .second, .val (.ref w0), .val (.ref o2), .val (.ref w0)] [(.int (1 : Int32))]) _
      refine own_go (fun t_ k_ => XS.goto X13.here hx rfl (pc0 := 87) (pc' := 91) rfl (hb hby at_87) (by decide) (by decide) k_) ?_
      show own_G p.tables e below T13 (mkF m 91 #[.val (.long p1), .second, .val (.int p2), .val (.long (0 : Int64)), .second, .val (.ref w0), .val (.ref o2), .val (.ref w0)] [(.int (1 : Int32))]) _
      exact own_end (v := some (.int (1 : Int32))) X13 Bd.notSynchronized (fun h => by rw [Bd.returns] at h; cases h) (fun fs hr => retN X13 hx (z := (1 : Int32)) (t := .boolean) Bd.returns (by simp) (hb hby at_91) hr) e13 ⟨rfl, N13⟩ (by decide) (by decide)
    by_cases c1 : (1 : Int64) = q
    · subst c1
      have hv : own_val (1 : Int64) w0 w1 w2 = .ref w1 := by simp [own_val]
      have hx_ : own_exp (1 : Int64) w0 w1 w2 = .ref w1 := by simp [own_exp]
      show own_G p.tables e below s₁ (mkF m 17 #[.val (.long p1), .second, .val (.int p2), .val (.long (1 : Int64)), .second, .unset, .unset, .unset] []) _
      refine own_go (fun t_ k_ => XS.lloadN X0.here hx rfl (hb hby at_17) rfl k_) ?_
      show own_G p.tables e below s₁ (mkF m 18 #[.val (.long p1), .second, .val (.int p2), .val (.long (1 : Int64)), .second, .unset, .unset, .unset] [(.long (1 : Int64))]) _
      obtain ⟨_, _, ⟨T14, L14, k14, n14⟩, -, X14, ⟨Lc14, hQ14, l14, y14, z14⟩, st14⟩ := Jvm.LawKit.callS X0 hx (y := (⟨"com/example/atmost1/atmost1/server/UnlockStatusOfPinLaw", "expectedFor", "(J)Lcom/example/atmost1/atmost1/server/UnlockStatus;"⟩ : MethodName)) hown (mvT hZ (hw _ (List.mem_of_getElem? (i := 0) rfl))) (mvT hZ (hw _ (List.mem_of_getElem? (i := 1) rfl))) (mvT hZ (hw _ (List.mem_of_getElem? (i := 2) rfl))) (mvT hZ (hw _ (List.mem_of_getElem? (i := 3) rfl))) (by decide) (backOf (W := 0) (rm1 l Z a0 hw [] (1 : Int64) w0 w1 w2 h0 n0 Z0 S_RELEASED S_NOT_HELD S_NOT_OWNER) hZ (hw _ (List.mem_of_getElem? (i := 3) rfl)) (hw _ (List.mem_of_getElem? (i := 2) rfl)) (by decide) (by decide)) (g := (mkF m 18 #[.val (.long p1), .second, .val (.int p2), .val (.long (1 : Int64)), .second, .unset, .unset, .unset] [(.long (1 : Int64))])) rfl (by rw [hml]; rfl) (argsL := [(.long (1 : Int64))]) (rest := []) (lenOf own_pd5 rfl) rfl (by show 2 * 0 + _ ≤ _; exact Nat.le_of_eq rfl) (hb hby at_18) (fun _ _ => ⟨rfl, e0, (by decide : 0 + 0 ≤ _), (by decide : 0 + 0 ≤ _)⟩)
      dsimp only [Pt.U, Pt.locs, Pt.cells, Pt.slots] at X14 l14 y14 z14 st14 hQ14
      subst l14 y14 z14
      obtain ⟨rfl, N14q, e14⟩ := hQ14
      have N14 := Fr.app N0 N14q
      refine own_go st14 ?_
      show own_G p.tables e below T14 (mkF m 21 #[.val (.long p1), .second, .val (.int p2), .val (.long (1 : Int64)), .second, .unset, .unset, .unset] [(own_exp (1 : Int64) w0 w1 w2)]) _
      rw [hx_]
      show own_G p.tables e below T14 (mkF m 21 #[.val (.long p1), .second, .val (.int p2), .val (.long (1 : Int64)), .second, .unset, .unset, .unset] [(.ref w1)]) _
      refine own_go (fun t_ k_ => XS.astore X14.here hx rfl (hb hby at_21) rfl rfl (l' := #[.val (.long p1), .second, .val (.int p2), .val (.long (1 : Int64)), .second, .val (.ref w1), .unset, .unset]) rfl k_) ?_
      show own_G p.tables e below T14 (mkF m 23 #[.val (.long p1), .second, .val (.int p2), .val (.long (1 : Int64)), .second, .val (.ref w1), .unset, .unset] []) _
      refine own_go (fun t_ k_ => XS.lloadN X14.here hx rfl (hb hby at_23) rfl k_) ?_
      show own_G p.tables e below T14 (mkF m 24 #[.val (.long p1), .second, .val (.int p2), .val (.long (1 : Int64)), .second, .val (.ref w1), .unset, .unset] [(.long (1 : Int64))]) _
      obtain ⟨_, _, ⟨T15, L15, k15, n15⟩, -, X15, ⟨Lc15, hQ15, l15, y15, z15⟩, st15⟩ := Jvm.LawKit.callS X14 hx (y := (⟨"com/example/atmost1/atmost1/server/UnlockStatus", "of", "(J)Ljava/util/Optional;"⟩ : MethodName)) hown (mvT hZ (hw _ (List.mem_of_getElem? (i := 5) rfl))) (mvT hZ (hw _ (List.mem_of_getElem? (i := 6) rfl))) (mvT hZ (hw _ (List.mem_of_getElem? (i := 7) rfl))) (mvT hZ (hw _ (List.mem_of_getElem? (i := 8) rfl))) (by decide) (backOf (W := 0) (rm2 l Z a0 hw [] (1 : Int64) aV clV w0 w1 w2 aE h0 n0 Z0 S_V A_V E_V Fit_V sz_V l0 l1 l2 F0 F1 F2 S_E E_E F_E) hZ (hw _ (List.mem_of_getElem? (i := 8) rfl)) (hw _ (List.mem_of_getElem? (i := 7) rfl)) (by decide) (by decide)) (g := (mkF m 24 #[.val (.long p1), .second, .val (.int p2), .val (.long (1 : Int64)), .second, .val (.ref w1), .unset, .unset] [(.long (1 : Int64))])) rfl (by rw [hml]; rfl) (argsL := [(.long (1 : Int64))]) (rest := []) (lenOf own_pd6 rfl) rfl (by show 2 * 0 + _ ≤ _; exact Nat.le_of_eq rfl) (hb hby at_24) (fun _ _ => ⟨rfl, e14, (by decide : 0 + 2 ≤ _), (by decide : 0 + 4 ≤ _)⟩)
      dsimp only [Pt.U, Pt.locs, Pt.cells, Pt.slots] at X15 l15 y15 z15 st15 hQ15
      subst l15 y15 z15
      obtain ⟨o15, rfl, N15q, K15, Eo15, Fo15⟩ := hQ15
      have N15 := Fr.app N14 N15q
      refine own_go st15 ?_
      show own_G p.tables e below T15 (mkF m 27 #[.val (.long p1), .second, .val (.int p2), .val (.long (1 : Int64)), .second, .val (.ref w1), .unset, .unset] [(.ref o15)]) _
      rw [hv] at Fo15
      refine own_go (fun t_ k_ => XS.astore X15.here hx rfl (hb hby at_27) rfl rfl (l' := #[.val (.long p1), .second, .val (.int p2), .val (.long (1 : Int64)), .second, .val (.ref w1), .val (.ref o15), .unset]) rfl k_) ?_
      show own_G p.tables e below T15 (mkF m 29 #[.val (.long p1), .second, .val (.int p2), .val (.long (1 : Int64)), .second, .val (.ref w1), .val (.ref o15), .unset] []) _
      refine own_go (fun t_ k_ => XS.aload X15.here hx rfl (hb hby at_29) rfl rfl k_) ?_
      show own_G p.tables e below T15 (mkF m 31 #[.val (.long p1), .second, .val (.int p2), .val (.long (1 : Int64)), .second, .val (.ref w1), .val (.ref o15), .unset] [(.ref w1)]) _
      refine own_go (fun t_ k_ => XS.ifnonnullYes X15.here hx rfl (pc0 := 31) (pc' := 48) rfl (hb hby at_31) rfl (by decide) (by decide) k_) ?_
      show own_G p.tables e below T15 (mkF m 48 #[.val (.long p1), .second, .val (.int p2), .val (.long (1 : Int64)), .second, .val (.ref w1), .val (.ref o15), .unset] []) _
      refine own_go (fun t_ k_ => XS.aload X15.here hx rfl (hb hby at_48) rfl rfl k_) ?_
      show own_G p.tables e below T15 (mkF m 50 #[.val (.long p1), .second, .val (.int p2), .val (.long (1 : Int64)), .second, .val (.ref w1), .val (.ref o15), .unset] [(.ref o15)]) _
      have f16 : n0 ≤ T15.heap.size := (Nat.le_trans Z0 K15.1)
      have f17 : Exa Z T15.heap w0 "com/example/atmost1/atmost1/server/UnlockStatus" := (E0.keep K15)
      have f18 : Fld Z T15.heap w0 "com/example/atmost1/atmost1/server/UnlockStatus" "code" "I" (.int (0 : Int32)) := (F0.keep K15 List.not_mem_nil)
      have f19 : Exa Z T15.heap w1 "com/example/atmost1/atmost1/server/UnlockStatus" := (E1.keep K15)
      have f20 : Fld Z T15.heap w1 "com/example/atmost1/atmost1/server/UnlockStatus" "code" "I" (.int (1 : Int32)) := (F1.keep K15 List.not_mem_nil)
      have f21 : Exa Z T15.heap w2 "com/example/atmost1/atmost1/server/UnlockStatus" := (E2.keep K15)
      have f22 : Fld Z T15.heap w2 "com/example/atmost1/atmost1/server/UnlockStatus" "code" "I" (.int (2 : Int32)) := (F2.keep K15 List.not_mem_nil)
      obtain ⟨cq23, kq23, q23a, q23b, q23c⟩ := isOf hZ rfl Eo15
      obtain ⟨_, _, ⟨T23, L23, k23, n23⟩, -, X23, ⟨Lc23, hQ23, l23, y23, z23⟩, st23⟩ := X15.virtualBack hx (y := (⟨"java/util/Optional", "isPresent", "()Z"⟩ : MethodName)) (z := (⟨"java/util/Optional", "isPresent", "()Z"⟩ : MethodName)) hown (mvT hZ (hw _ (List.mem_of_getElem? (i := 34) rfl))) (mvT hZ (hw _ (List.mem_of_getElem? (i := 35) rfl))) (notFace_of_selects (args := #[]) (mvT hZ (hw _ (List.mem_of_getElem? (i := 37) rfl)))) (mvT hZ (hw _ (List.mem_of_getElem? (i := 37) rfl))) (mvT hZ (hw _ (List.mem_of_getElem? (i := 36) rfl))) (by decide) (backOf (W := 0) (rm5 l Z a0 hw [] o15 (.ref w1) T15.heap n0 f16 Fo15 rfl) hZ (hw _ (List.mem_of_getElem? (i := 38) rfl)) (hw _ (List.mem_of_getElem? (i := 11) rfl)) (by decide) (by decide)) q23a q23c (g := (mkF m 50 #[.val (.long p1), .second, .val (.int p2), .val (.long (1 : Int64)), .second, .val (.ref w1), .val (.ref o15), .unset] [(.ref o15)])) rfl (by rw [hml]; rfl) (Steps.refl _) (argsL := []) (rest := []) (lenOf own_pd7 rfl) rfl (by show 2 * 0 + _ ≤ _; exact Nat.le_of_eq rfl) (hb hby at_50) (fun _ _ => ⟨rfl, rfl, (by decide : 2 + 0 ≤ _), (by decide : 4 + 0 ≤ _)⟩)
      dsimp only [Pt.U, Pt.locs, Pt.cells, Pt.slots] at X23 l23 y23 z23 st23 hQ23
      subst l23 y23 z23
      obtain ⟨rfl, N23q, e23⟩ := hQ23
      have N23 := Fr.app N15 N23q
      refine own_go (fun t_ k_ => st23.trans k_) ?_
      show own_G p.tables e below T23 (mkF m 53 #[.val (.long p1), .second, .val (.int p2), .val (.long (1 : Int64)), .second, .val (.ref w1), .val (.ref o15), .unset] [(.int (1 : Int32))]) _
      refine own_go (fun t_ k_ => XS.ifYes X23.here hx rfl (pc0 := 53) (pc' := 58) rfl (hb hby at_53) rfl ((if0 _ _).trans (feq (by decide : ¬ ((1 : Int32) = (0 : Int32)))).2) (by decide) (by decide) k_) ?_
      show own_G p.tables e below T23 (mkF m 58 #[.val (.long p1), .second, .val (.int p2), .val (.long (1 : Int64)), .second, .val (.ref w1), .val (.ref o15), .unset] []) _
      refine own_go (fun t_ k_ => XS.aload X23.here hx rfl (hb hby at_58) rfl rfl k_) ?_
      show own_G p.tables e below T23 (mkF m 60 #[.val (.long p1), .second, .val (.int p2), .val (.long (1 : Int64)), .second, .val (.ref w1), .val (.ref o15), .unset] [(.ref o15)]) _
      obtain ⟨cq24, kq24, q24a, q24b, q24c⟩ := isOf hZ e23 Eo15
      obtain ⟨_, _, ⟨T24, L24, k24, n24⟩, -, X24, ⟨Lc24, hQ24, l24, y24, z24⟩, st24⟩ := X23.virtualBack hx (y := (⟨"java/util/Optional", "get", "()Ljava/lang/Object;"⟩ : MethodName)) (z := (⟨"java/util/Optional", "get", "()Ljava/lang/Object;"⟩ : MethodName)) hown (mvT hZ (hw _ (List.mem_of_getElem? (i := 58) rfl))) (mvT hZ (hw _ (List.mem_of_getElem? (i := 59) rfl))) (notFace_of_selects (args := #[]) (mvT hZ (hw _ (List.mem_of_getElem? (i := 61) rfl)))) (mvT hZ (hw _ (List.mem_of_getElem? (i := 61) rfl))) (mvT hZ (hw _ (List.mem_of_getElem? (i := 60) rfl))) (by decide) (backOf (W := 0) (rm10 l Z a0 hw [] o15 w1 T15.heap n0 f16 Fo15) hZ (hw _ (List.mem_of_getElem? (i := 62) rfl)) (hw _ (List.mem_of_getElem? (i := 11) rfl)) (by decide) (by decide)) q24a q24c (g := (mkF m 60 #[.val (.long p1), .second, .val (.int p2), .val (.long (1 : Int64)), .second, .val (.ref w1), .val (.ref o15), .unset] [(.ref o15)])) rfl (by rw [hml]; rfl) (Steps.refl _) (argsL := []) (rest := []) (lenOf own_pd8 rfl) rfl (by show 2 * 0 + _ ≤ _; exact Nat.le_of_eq rfl) (hb hby at_60) (fun _ _ => ⟨rfl, e23, (by decide : 2 + 0 ≤ _), (by decide : 4 + 0 ≤ _)⟩)
      dsimp only [Pt.U, Pt.locs, Pt.cells, Pt.slots] at X24 l24 y24 z24 st24 hQ24
      subst l24 y24 z24
      obtain ⟨rfl, N24q, e24⟩ := hQ24
      have N24 := Fr.app N23 N24q
      refine own_go (fun t_ k_ => st24.trans k_) ?_
      show own_G p.tables e below T24 (mkF m 63 #[.val (.long p1), .second, .val (.int p2), .val (.long (1 : Int64)), .second, .val (.ref w1), .val (.ref o15), .unset] [(.ref w1)]) _
      obtain ⟨T25, X25, e25, st25⟩ := castY X24 hx hZ hown (hw _ (List.mem_of_getElem? (i := 63) rfl)) e24 (Ins.self f19) (g := (mkF m 63 #[.val (.long p1), .second, .val (.int p2), .val (.long (1 : Int64)), .second, .val (.ref w1), .val (.ref o15), .unset] [(.ref w1)])) rfl rfl (hb hby at_63)
      refine own_go st25 ?_
      show own_G p.tables e below T25 (mkF m 66 #[.val (.long p1), .second, .val (.int p2), .val (.long (1 : Int64)), .second, .val (.ref w1), .val (.ref o15), .unset] [(.ref w1)]) _
      refine own_go (fun t_ k_ => XS.astore X25.here hx rfl (hb hby at_66) rfl rfl (l' := #[.val (.long p1), .second, .val (.int p2), .val (.long (1 : Int64)), .second, .val (.ref w1), .val (.ref o15), .val (.ref w1)]) rfl k_) ?_
      show own_G p.tables e below T25 (mkF m 68 #[.val (.long p1), .second, .val (.int p2), .val (.long (1 : Int64)), .second, .val (.ref w1), .val (.ref o15), .val (.ref w1)] []) _
      refine own_go (fun t_ k_ => XS.aload X25.here hx rfl (hb hby at_68) rfl rfl k_) ?_
      show own_G p.tables e below T25 (mkF m 70 #[.val (.long p1), .second, .val (.int p2), .val (.long (1 : Int64)), .second, .val (.ref w1), .val (.ref o15), .val (.ref w1)] [(.ref w1)]) _
      refine own_go (fun t_ k_ => XS.aload X25.here hx rfl (hb hby at_70) rfl rfl k_) ?_
      show own_G p.tables e below T25 (mkF m 72 #[.val (.long p1), .second, .val (.int p2), .val (.long (1 : Int64)), .second, .val (.ref w1), .val (.ref o15), .val (.ref w1)] [(.ref w1), (.ref w1)]) _
      refine own_go (fun t_ k_ => Jvm.RoadKit.acmp (g := (mkF m 72 #[.val (.long p1), .second, .val (.int p2), .val (.long (1 : Int64)), .second, .val (.ref w1), .val (.ref o15), .val (.ref w1)] [(.ref w1), (.ref w1)])) X25 hx rfl rfl rfl (pc0 := 72) (pc' := 75) (same := true) rfl (hb hby at_72) rfl (decide_eq_true rfl) (by decide) (by decide) k_) ?_
      show own_G p.tables e below T25 (mkF m 75 #[.val (.long p1), .second, .val (.int p2), .val (.long (1 : Int64)), .second, .val (.ref w1), .val (.ref o15), .val (.ref w1)] []) _
      refine own_go (fun t_ k_ => XS.aload X25.here hx rfl (hb hby at_75) rfl rfl k_) ?_
      show own_G p.tables e below T25 (mkF m 77 #[.val (.long p1), .second, .val (.int p2), .val (.long (1 : Int64)), .second, .val (.ref w1), .val (.ref o15), .val (.ref w1)] [(.ref w1)]) _
      obtain ⟨cq26, kq26, q26a, q26b, q26c⟩ := isOf hZ e25 f19
      obtain ⟨_, _, ⟨T26, L26, k26, n26⟩, -, X26, ⟨Lc26, hQ26, l26, y26, z26⟩, st26⟩ := X25.virtualBack hx (y := (⟨"com/example/atmost1/atmost1/server/UnlockStatus", "code", "()I"⟩ : MethodName)) (z := (⟨"com/example/atmost1/atmost1/server/UnlockStatus", "code", "()I"⟩ : MethodName)) hown (mvT hZ (hw _ (List.mem_of_getElem? (i := 65) rfl))) (mvT hZ (hw _ (List.mem_of_getElem? (i := 66) rfl))) (notFace_of_selects (args := #[]) (mvT hZ (hw _ (List.mem_of_getElem? (i := 68) rfl)))) (mvT hZ (hw _ (List.mem_of_getElem? (i := 68) rfl))) (mvT hZ (hw _ (List.mem_of_getElem? (i := 67) rfl))) (by decide) (backOf (W := 0) (rm11 l Z a0 hw [] w1 (1 : Int32) T15.heap n0 f16 f20) hZ (hw _ (List.mem_of_getElem? (i := 69) rfl)) (hw _ (List.mem_of_getElem? (i := 7) rfl)) (by decide) (by decide)) q26a q26c (g := (mkF m 77 #[.val (.long p1), .second, .val (.int p2), .val (.long (1 : Int64)), .second, .val (.ref w1), .val (.ref o15), .val (.ref w1)] [(.ref w1)])) rfl (by rw [hml]; rfl) (Steps.refl _) (argsL := []) (rest := []) (lenOf own_pd9 rfl) rfl (by show 2 * 0 + _ ≤ _; exact Nat.le_of_eq rfl) (hb hby at_77) (fun _ _ => ⟨rfl, e25, (by decide : 2 + 0 ≤ _), (by decide : 4 + 0 ≤ _)⟩)
      dsimp only [Pt.U, Pt.locs, Pt.cells, Pt.slots] at X26 l26 y26 z26 st26 hQ26
      subst l26 y26 z26
      obtain ⟨rfl, N26q, e26⟩ := hQ26
      have N26 := Fr.app N24 N26q
      refine own_go (fun t_ k_ => st26.trans k_) ?_
      show own_G p.tables e below T26 (mkF m 80 #[.val (.long p1), .second, .val (.int p2), .val (.long (1 : Int64)), .second, .val (.ref w1), .val (.ref o15), .val (.ref w1)] [(.int (1 : Int32))]) _
      refine own_go (fun t_ k_ => XS.i2l X26.here hx rfl (hb hby at_80) rfl k_) ?_
      show own_G p.tables e below T26 (mkF m 81 #[.val (.long p1), .second, .val (.int p2), .val (.long (1 : Int64)), .second, .val (.ref w1), .val (.ref o15), .val (.ref w1)] [(.long (1 : Int64))]) _
      refine own_go (fun t_ k_ => XS.lloadN X26.here hx rfl (hb hby at_81) rfl k_) ?_
      show own_G p.tables e below T26 (mkF m 82 #[.val (.long p1), .second, .val (.int p2), .val (.long (1 : Int64)), .second, .val (.ref w1), .val (.ref o15), .val (.ref w1)] [(.long (1 : Int64)), (.long (1 : Int64))]) _
      refine own_go (fun t_ k_ => XS.lcmp X26.here hx rfl (hb hby at_82) rfl k_) ?_
      show own_G p.tables e below T26 (mkF m 83 #[.val (.long p1), .second, .val (.int p2), .val (.long (1 : Int64)), .second, .val (.ref w1), .val (.ref o15), .val (.ref w1)] [(.int (lcmpW (1 : Int64) (1 : Int64)))]) _
      refine own_go (fun t_ k_ => XS.ifNo X26.here hx rfl (hb hby at_83) rfl ((if0 _ _).trans (teq ((lw_eq (1 : Int64) (1 : Int64)).mpr rfl)).2) k_) ?_
      show own_G p.tables e below T26 (mkF m 86 #[.val (.long p1), .second, .val (.int p2), .val (.long (1 : Int64)), .second, .val (.ref w1), .val (.ref o15), .val (.ref w1)] []) _
      refine own_go (fun t_ k_ => XS.iconst X26.here hx rfl (hb hby at_86) k_) ?_
      show own_G p.tables e below T26 (mkF m 87 #[.val (.long p1), .second, .val (.int p2), .val (.long (1 : Int64)), .second, .val (.ref w1), .val (.ref o15), .val (.ref w1)] [(.int (1 : Int32))]) _
      refine own_go (fun t_ k_ => XS.goto X26.here hx rfl (pc0 := 87) (pc' := 91) rfl (hb hby at_87) (by decide) (by decide) k_) ?_
      show own_G p.tables e below T26 (mkF m 91 #[.val (.long p1), .second, .val (.int p2), .val (.long (1 : Int64)), .second, .val (.ref w1), .val (.ref o15), .val (.ref w1)] [(.int (1 : Int32))]) _
      exact own_end (v := some (.int (1 : Int32))) X26 Bd.notSynchronized (fun h => by rw [Bd.returns] at h; cases h) (fun fs hr => retN X26 hx (z := (1 : Int32)) (t := .boolean) Bd.returns (by simp) (hb hby at_91) hr) e26 ⟨rfl, N26⟩ (by decide) (by decide)
    by_cases c2 : (2 : Int64) = q
    · subst c2
      have hv : own_val (2 : Int64) w0 w1 w2 = .ref w2 := by simp [own_val]
      have hx_ : own_exp (2 : Int64) w0 w1 w2 = .ref w2 := by simp [own_exp]
      show own_G p.tables e below s₁ (mkF m 17 #[.val (.long p1), .second, .val (.int p2), .val (.long (2 : Int64)), .second, .unset, .unset, .unset] []) _
      refine own_go (fun t_ k_ => XS.lloadN X0.here hx rfl (hb hby at_17) rfl k_) ?_
      show own_G p.tables e below s₁ (mkF m 18 #[.val (.long p1), .second, .val (.int p2), .val (.long (2 : Int64)), .second, .unset, .unset, .unset] [(.long (2 : Int64))]) _
      obtain ⟨_, _, ⟨T27, L27, k27, n27⟩, -, X27, ⟨Lc27, hQ27, l27, y27, z27⟩, st27⟩ := Jvm.LawKit.callS X0 hx (y := (⟨"com/example/atmost1/atmost1/server/UnlockStatusOfPinLaw", "expectedFor", "(J)Lcom/example/atmost1/atmost1/server/UnlockStatus;"⟩ : MethodName)) hown (mvT hZ (hw _ (List.mem_of_getElem? (i := 0) rfl))) (mvT hZ (hw _ (List.mem_of_getElem? (i := 1) rfl))) (mvT hZ (hw _ (List.mem_of_getElem? (i := 2) rfl))) (mvT hZ (hw _ (List.mem_of_getElem? (i := 3) rfl))) (by decide) (backOf (W := 0) (rm1 l Z a0 hw [] (2 : Int64) w0 w1 w2 h0 n0 Z0 S_RELEASED S_NOT_HELD S_NOT_OWNER) hZ (hw _ (List.mem_of_getElem? (i := 3) rfl)) (hw _ (List.mem_of_getElem? (i := 2) rfl)) (by decide) (by decide)) (g := (mkF m 18 #[.val (.long p1), .second, .val (.int p2), .val (.long (2 : Int64)), .second, .unset, .unset, .unset] [(.long (2 : Int64))])) rfl (by rw [hml]; rfl) (argsL := [(.long (2 : Int64))]) (rest := []) (lenOf own_pd5 rfl) rfl (by show 2 * 0 + _ ≤ _; exact Nat.le_of_eq rfl) (hb hby at_18) (fun _ _ => ⟨rfl, e0, (by decide : 0 + 0 ≤ _), (by decide : 0 + 0 ≤ _)⟩)
      dsimp only [Pt.U, Pt.locs, Pt.cells, Pt.slots] at X27 l27 y27 z27 st27 hQ27
      subst l27 y27 z27
      obtain ⟨rfl, N27q, e27⟩ := hQ27
      have N27 := Fr.app N0 N27q
      refine own_go st27 ?_
      show own_G p.tables e below T27 (mkF m 21 #[.val (.long p1), .second, .val (.int p2), .val (.long (2 : Int64)), .second, .unset, .unset, .unset] [(own_exp (2 : Int64) w0 w1 w2)]) _
      rw [hx_]
      show own_G p.tables e below T27 (mkF m 21 #[.val (.long p1), .second, .val (.int p2), .val (.long (2 : Int64)), .second, .unset, .unset, .unset] [(.ref w2)]) _
      refine own_go (fun t_ k_ => XS.astore X27.here hx rfl (hb hby at_21) rfl rfl (l' := #[.val (.long p1), .second, .val (.int p2), .val (.long (2 : Int64)), .second, .val (.ref w2), .unset, .unset]) rfl k_) ?_
      show own_G p.tables e below T27 (mkF m 23 #[.val (.long p1), .second, .val (.int p2), .val (.long (2 : Int64)), .second, .val (.ref w2), .unset, .unset] []) _
      refine own_go (fun t_ k_ => XS.lloadN X27.here hx rfl (hb hby at_23) rfl k_) ?_
      show own_G p.tables e below T27 (mkF m 24 #[.val (.long p1), .second, .val (.int p2), .val (.long (2 : Int64)), .second, .val (.ref w2), .unset, .unset] [(.long (2 : Int64))]) _
      obtain ⟨_, _, ⟨T28, L28, k28, n28⟩, -, X28, ⟨Lc28, hQ28, l28, y28, z28⟩, st28⟩ := Jvm.LawKit.callS X27 hx (y := (⟨"com/example/atmost1/atmost1/server/UnlockStatus", "of", "(J)Ljava/util/Optional;"⟩ : MethodName)) hown (mvT hZ (hw _ (List.mem_of_getElem? (i := 5) rfl))) (mvT hZ (hw _ (List.mem_of_getElem? (i := 6) rfl))) (mvT hZ (hw _ (List.mem_of_getElem? (i := 7) rfl))) (mvT hZ (hw _ (List.mem_of_getElem? (i := 8) rfl))) (by decide) (backOf (W := 0) (rm2 l Z a0 hw [] (2 : Int64) aV clV w0 w1 w2 aE h0 n0 Z0 S_V A_V E_V Fit_V sz_V l0 l1 l2 F0 F1 F2 S_E E_E F_E) hZ (hw _ (List.mem_of_getElem? (i := 8) rfl)) (hw _ (List.mem_of_getElem? (i := 7) rfl)) (by decide) (by decide)) (g := (mkF m 24 #[.val (.long p1), .second, .val (.int p2), .val (.long (2 : Int64)), .second, .val (.ref w2), .unset, .unset] [(.long (2 : Int64))])) rfl (by rw [hml]; rfl) (argsL := [(.long (2 : Int64))]) (rest := []) (lenOf own_pd6 rfl) rfl (by show 2 * 0 + _ ≤ _; exact Nat.le_of_eq rfl) (hb hby at_24) (fun _ _ => ⟨rfl, e27, (by decide : 0 + 2 ≤ _), (by decide : 0 + 4 ≤ _)⟩)
      dsimp only [Pt.U, Pt.locs, Pt.cells, Pt.slots] at X28 l28 y28 z28 st28 hQ28
      subst l28 y28 z28
      obtain ⟨o28, rfl, N28q, K28, Eo28, Fo28⟩ := hQ28
      have N28 := Fr.app N27 N28q
      refine own_go st28 ?_
      show own_G p.tables e below T28 (mkF m 27 #[.val (.long p1), .second, .val (.int p2), .val (.long (2 : Int64)), .second, .val (.ref w2), .unset, .unset] [(.ref o28)]) _
      rw [hv] at Fo28
      refine own_go (fun t_ k_ => XS.astore X28.here hx rfl (hb hby at_27) rfl rfl (l' := #[.val (.long p1), .second, .val (.int p2), .val (.long (2 : Int64)), .second, .val (.ref w2), .val (.ref o28), .unset]) rfl k_) ?_
      show own_G p.tables e below T28 (mkF m 29 #[.val (.long p1), .second, .val (.int p2), .val (.long (2 : Int64)), .second, .val (.ref w2), .val (.ref o28), .unset] []) _
      refine own_go (fun t_ k_ => XS.aload X28.here hx rfl (hb hby at_29) rfl rfl k_) ?_
      show own_G p.tables e below T28 (mkF m 31 #[.val (.long p1), .second, .val (.int p2), .val (.long (2 : Int64)), .second, .val (.ref w2), .val (.ref o28), .unset] [(.ref w2)]) _
      refine own_go (fun t_ k_ => XS.ifnonnullYes X28.here hx rfl (pc0 := 31) (pc' := 48) rfl (hb hby at_31) rfl (by decide) (by decide) k_) ?_
      show own_G p.tables e below T28 (mkF m 48 #[.val (.long p1), .second, .val (.int p2), .val (.long (2 : Int64)), .second, .val (.ref w2), .val (.ref o28), .unset] []) _
      refine own_go (fun t_ k_ => XS.aload X28.here hx rfl (hb hby at_48) rfl rfl k_) ?_
      show own_G p.tables e below T28 (mkF m 50 #[.val (.long p1), .second, .val (.int p2), .val (.long (2 : Int64)), .second, .val (.ref w2), .val (.ref o28), .unset] [(.ref o28)]) _
      have f29 : n0 ≤ T28.heap.size := (Nat.le_trans Z0 K28.1)
      have f30 : Exa Z T28.heap w0 "com/example/atmost1/atmost1/server/UnlockStatus" := (E0.keep K28)
      have f31 : Fld Z T28.heap w0 "com/example/atmost1/atmost1/server/UnlockStatus" "code" "I" (.int (0 : Int32)) := (F0.keep K28 List.not_mem_nil)
      have f32 : Exa Z T28.heap w1 "com/example/atmost1/atmost1/server/UnlockStatus" := (E1.keep K28)
      have f33 : Fld Z T28.heap w1 "com/example/atmost1/atmost1/server/UnlockStatus" "code" "I" (.int (1 : Int32)) := (F1.keep K28 List.not_mem_nil)
      have f34 : Exa Z T28.heap w2 "com/example/atmost1/atmost1/server/UnlockStatus" := (E2.keep K28)
      have f35 : Fld Z T28.heap w2 "com/example/atmost1/atmost1/server/UnlockStatus" "code" "I" (.int (2 : Int32)) := (F2.keep K28 List.not_mem_nil)
      obtain ⟨cq36, kq36, q36a, q36b, q36c⟩ := isOf hZ rfl Eo28
      obtain ⟨_, _, ⟨T36, L36, k36, n36⟩, -, X36, ⟨Lc36, hQ36, l36, y36, z36⟩, st36⟩ := X28.virtualBack hx (y := (⟨"java/util/Optional", "isPresent", "()Z"⟩ : MethodName)) (z := (⟨"java/util/Optional", "isPresent", "()Z"⟩ : MethodName)) hown (mvT hZ (hw _ (List.mem_of_getElem? (i := 34) rfl))) (mvT hZ (hw _ (List.mem_of_getElem? (i := 35) rfl))) (notFace_of_selects (args := #[]) (mvT hZ (hw _ (List.mem_of_getElem? (i := 37) rfl)))) (mvT hZ (hw _ (List.mem_of_getElem? (i := 37) rfl))) (mvT hZ (hw _ (List.mem_of_getElem? (i := 36) rfl))) (by decide) (backOf (W := 0) (rm5 l Z a0 hw [] o28 (.ref w2) T28.heap n0 f29 Fo28 rfl) hZ (hw _ (List.mem_of_getElem? (i := 38) rfl)) (hw _ (List.mem_of_getElem? (i := 11) rfl)) (by decide) (by decide)) q36a q36c (g := (mkF m 50 #[.val (.long p1), .second, .val (.int p2), .val (.long (2 : Int64)), .second, .val (.ref w2), .val (.ref o28), .unset] [(.ref o28)])) rfl (by rw [hml]; rfl) (Steps.refl _) (argsL := []) (rest := []) (lenOf own_pd7 rfl) rfl (by show 2 * 0 + _ ≤ _; exact Nat.le_of_eq rfl) (hb hby at_50) (fun _ _ => ⟨rfl, rfl, (by decide : 2 + 0 ≤ _), (by decide : 4 + 0 ≤ _)⟩)
      dsimp only [Pt.U, Pt.locs, Pt.cells, Pt.slots] at X36 l36 y36 z36 st36 hQ36
      subst l36 y36 z36
      obtain ⟨rfl, N36q, e36⟩ := hQ36
      have N36 := Fr.app N28 N36q
      refine own_go (fun t_ k_ => st36.trans k_) ?_
      show own_G p.tables e below T36 (mkF m 53 #[.val (.long p1), .second, .val (.int p2), .val (.long (2 : Int64)), .second, .val (.ref w2), .val (.ref o28), .unset] [(.int (1 : Int32))]) _
      refine own_go (fun t_ k_ => XS.ifYes X36.here hx rfl (pc0 := 53) (pc' := 58) rfl (hb hby at_53) rfl ((if0 _ _).trans (feq (by decide : ¬ ((1 : Int32) = (0 : Int32)))).2) (by decide) (by decide) k_) ?_
      show own_G p.tables e below T36 (mkF m 58 #[.val (.long p1), .second, .val (.int p2), .val (.long (2 : Int64)), .second, .val (.ref w2), .val (.ref o28), .unset] []) _
      refine own_go (fun t_ k_ => XS.aload X36.here hx rfl (hb hby at_58) rfl rfl k_) ?_
      show own_G p.tables e below T36 (mkF m 60 #[.val (.long p1), .second, .val (.int p2), .val (.long (2 : Int64)), .second, .val (.ref w2), .val (.ref o28), .unset] [(.ref o28)]) _
      obtain ⟨cq37, kq37, q37a, q37b, q37c⟩ := isOf hZ e36 Eo28
      obtain ⟨_, _, ⟨T37, L37, k37, n37⟩, -, X37, ⟨Lc37, hQ37, l37, y37, z37⟩, st37⟩ := X36.virtualBack hx (y := (⟨"java/util/Optional", "get", "()Ljava/lang/Object;"⟩ : MethodName)) (z := (⟨"java/util/Optional", "get", "()Ljava/lang/Object;"⟩ : MethodName)) hown (mvT hZ (hw _ (List.mem_of_getElem? (i := 58) rfl))) (mvT hZ (hw _ (List.mem_of_getElem? (i := 59) rfl))) (notFace_of_selects (args := #[]) (mvT hZ (hw _ (List.mem_of_getElem? (i := 61) rfl)))) (mvT hZ (hw _ (List.mem_of_getElem? (i := 61) rfl))) (mvT hZ (hw _ (List.mem_of_getElem? (i := 60) rfl))) (by decide) (backOf (W := 0) (rm10 l Z a0 hw [] o28 w2 T28.heap n0 f29 Fo28) hZ (hw _ (List.mem_of_getElem? (i := 62) rfl)) (hw _ (List.mem_of_getElem? (i := 11) rfl)) (by decide) (by decide)) q37a q37c (g := (mkF m 60 #[.val (.long p1), .second, .val (.int p2), .val (.long (2 : Int64)), .second, .val (.ref w2), .val (.ref o28), .unset] [(.ref o28)])) rfl (by rw [hml]; rfl) (Steps.refl _) (argsL := []) (rest := []) (lenOf own_pd8 rfl) rfl (by show 2 * 0 + _ ≤ _; exact Nat.le_of_eq rfl) (hb hby at_60) (fun _ _ => ⟨rfl, e36, (by decide : 2 + 0 ≤ _), (by decide : 4 + 0 ≤ _)⟩)
      dsimp only [Pt.U, Pt.locs, Pt.cells, Pt.slots] at X37 l37 y37 z37 st37 hQ37
      subst l37 y37 z37
      obtain ⟨rfl, N37q, e37⟩ := hQ37
      have N37 := Fr.app N36 N37q
      refine own_go (fun t_ k_ => st37.trans k_) ?_
      show own_G p.tables e below T37 (mkF m 63 #[.val (.long p1), .second, .val (.int p2), .val (.long (2 : Int64)), .second, .val (.ref w2), .val (.ref o28), .unset] [(.ref w2)]) _
      obtain ⟨T38, X38, e38, st38⟩ := castY X37 hx hZ hown (hw _ (List.mem_of_getElem? (i := 63) rfl)) e37 (Ins.self f34) (g := (mkF m 63 #[.val (.long p1), .second, .val (.int p2), .val (.long (2 : Int64)), .second, .val (.ref w2), .val (.ref o28), .unset] [(.ref w2)])) rfl rfl (hb hby at_63)
      refine own_go st38 ?_
      show own_G p.tables e below T38 (mkF m 66 #[.val (.long p1), .second, .val (.int p2), .val (.long (2 : Int64)), .second, .val (.ref w2), .val (.ref o28), .unset] [(.ref w2)]) _
      refine own_go (fun t_ k_ => XS.astore X38.here hx rfl (hb hby at_66) rfl rfl (l' := #[.val (.long p1), .second, .val (.int p2), .val (.long (2 : Int64)), .second, .val (.ref w2), .val (.ref o28), .val (.ref w2)]) rfl k_) ?_
      show own_G p.tables e below T38 (mkF m 68 #[.val (.long p1), .second, .val (.int p2), .val (.long (2 : Int64)), .second, .val (.ref w2), .val (.ref o28), .val (.ref w2)] []) _
      refine own_go (fun t_ k_ => XS.aload X38.here hx rfl (hb hby at_68) rfl rfl k_) ?_
      show own_G p.tables e below T38 (mkF m 70 #[.val (.long p1), .second, .val (.int p2), .val (.long (2 : Int64)), .second, .val (.ref w2), .val (.ref o28), .val (.ref w2)] [(.ref w2)]) _
      refine own_go (fun t_ k_ => XS.aload X38.here hx rfl (hb hby at_70) rfl rfl k_) ?_
      show own_G p.tables e below T38 (mkF m 72 #[.val (.long p1), .second, .val (.int p2), .val (.long (2 : Int64)), .second, .val (.ref w2), .val (.ref o28), .val (.ref w2)] [(.ref w2), (.ref w2)]) _
      refine own_go (fun t_ k_ => Jvm.RoadKit.acmp (g := (mkF m 72 #[.val (.long p1), .second, .val (.int p2), .val (.long (2 : Int64)), .second, .val (.ref w2), .val (.ref o28), .val (.ref w2)] [(.ref w2), (.ref w2)])) X38 hx rfl rfl rfl (pc0 := 72) (pc' := 75) (same := true) rfl (hb hby at_72) rfl (decide_eq_true rfl) (by decide) (by decide) k_) ?_
      show own_G p.tables e below T38 (mkF m 75 #[.val (.long p1), .second, .val (.int p2), .val (.long (2 : Int64)), .second, .val (.ref w2), .val (.ref o28), .val (.ref w2)] []) _
      refine own_go (fun t_ k_ => XS.aload X38.here hx rfl (hb hby at_75) rfl rfl k_) ?_
      show own_G p.tables e below T38 (mkF m 77 #[.val (.long p1), .second, .val (.int p2), .val (.long (2 : Int64)), .second, .val (.ref w2), .val (.ref o28), .val (.ref w2)] [(.ref w2)]) _
      obtain ⟨cq39, kq39, q39a, q39b, q39c⟩ := isOf hZ e38 f34
      obtain ⟨_, _, ⟨T39, L39, k39, n39⟩, -, X39, ⟨Lc39, hQ39, l39, y39, z39⟩, st39⟩ := X38.virtualBack hx (y := (⟨"com/example/atmost1/atmost1/server/UnlockStatus", "code", "()I"⟩ : MethodName)) (z := (⟨"com/example/atmost1/atmost1/server/UnlockStatus", "code", "()I"⟩ : MethodName)) hown (mvT hZ (hw _ (List.mem_of_getElem? (i := 65) rfl))) (mvT hZ (hw _ (List.mem_of_getElem? (i := 66) rfl))) (notFace_of_selects (args := #[]) (mvT hZ (hw _ (List.mem_of_getElem? (i := 68) rfl)))) (mvT hZ (hw _ (List.mem_of_getElem? (i := 68) rfl))) (mvT hZ (hw _ (List.mem_of_getElem? (i := 67) rfl))) (by decide) (backOf (W := 0) (rm11 l Z a0 hw [] w2 (2 : Int32) T28.heap n0 f29 f35) hZ (hw _ (List.mem_of_getElem? (i := 69) rfl)) (hw _ (List.mem_of_getElem? (i := 7) rfl)) (by decide) (by decide)) q39a q39c (g := (mkF m 77 #[.val (.long p1), .second, .val (.int p2), .val (.long (2 : Int64)), .second, .val (.ref w2), .val (.ref o28), .val (.ref w2)] [(.ref w2)])) rfl (by rw [hml]; rfl) (Steps.refl _) (argsL := []) (rest := []) (lenOf own_pd9 rfl) rfl (by show 2 * 0 + _ ≤ _; exact Nat.le_of_eq rfl) (hb hby at_77) (fun _ _ => ⟨rfl, e38, (by decide : 2 + 0 ≤ _), (by decide : 4 + 0 ≤ _)⟩)
      dsimp only [Pt.U, Pt.locs, Pt.cells, Pt.slots] at X39 l39 y39 z39 st39 hQ39
      subst l39 y39 z39
      obtain ⟨rfl, N39q, e39⟩ := hQ39
      have N39 := Fr.app N37 N39q
      refine own_go (fun t_ k_ => st39.trans k_) ?_
      show own_G p.tables e below T39 (mkF m 80 #[.val (.long p1), .second, .val (.int p2), .val (.long (2 : Int64)), .second, .val (.ref w2), .val (.ref o28), .val (.ref w2)] [(.int (2 : Int32))]) _
      refine own_go (fun t_ k_ => XS.i2l X39.here hx rfl (hb hby at_80) rfl k_) ?_
      show own_G p.tables e below T39 (mkF m 81 #[.val (.long p1), .second, .val (.int p2), .val (.long (2 : Int64)), .second, .val (.ref w2), .val (.ref o28), .val (.ref w2)] [(.long (2 : Int64))]) _
      refine own_go (fun t_ k_ => XS.lloadN X39.here hx rfl (hb hby at_81) rfl k_) ?_
      show own_G p.tables e below T39 (mkF m 82 #[.val (.long p1), .second, .val (.int p2), .val (.long (2 : Int64)), .second, .val (.ref w2), .val (.ref o28), .val (.ref w2)] [(.long (2 : Int64)), (.long (2 : Int64))]) _
      refine own_go (fun t_ k_ => XS.lcmp X39.here hx rfl (hb hby at_82) rfl k_) ?_
      show own_G p.tables e below T39 (mkF m 83 #[.val (.long p1), .second, .val (.int p2), .val (.long (2 : Int64)), .second, .val (.ref w2), .val (.ref o28), .val (.ref w2)] [(.int (lcmpW (2 : Int64) (2 : Int64)))]) _
      refine own_go (fun t_ k_ => XS.ifNo X39.here hx rfl (hb hby at_83) rfl ((if0 _ _).trans (teq ((lw_eq (2 : Int64) (2 : Int64)).mpr rfl)).2) k_) ?_
      show own_G p.tables e below T39 (mkF m 86 #[.val (.long p1), .second, .val (.int p2), .val (.long (2 : Int64)), .second, .val (.ref w2), .val (.ref o28), .val (.ref w2)] []) _
      refine own_go (fun t_ k_ => XS.iconst X39.here hx rfl (hb hby at_86) k_) ?_
      show own_G p.tables e below T39 (mkF m 87 #[.val (.long p1), .second, .val (.int p2), .val (.long (2 : Int64)), .second, .val (.ref w2), .val (.ref o28), .val (.ref w2)] [(.int (1 : Int32))]) _
      refine own_go (fun t_ k_ => XS.goto X39.here hx rfl (pc0 := 87) (pc' := 91) rfl (hb hby at_87) (by decide) (by decide) k_) ?_
      show own_G p.tables e below T39 (mkF m 91 #[.val (.long p1), .second, .val (.int p2), .val (.long (2 : Int64)), .second, .val (.ref w2), .val (.ref o28), .val (.ref w2)] [(.int (1 : Int32))]) _
      exact own_end (v := some (.int (1 : Int32))) X39 Bd.notSynchronized (fun h => by rw [Bd.returns] at h; cases h) (fun fs hr => retN X39 hx (z := (1 : Int32)) (t := .boolean) Bd.returns (by simp) (hb hby at_91) hr) e39 ⟨rfl, N39⟩ (by decide) (by decide)
    have hv : own_val q w0 w1 w2 = .null := by unfold own_val; rw [if_neg c0, if_neg c1, if_neg c2]
    have hx_ : own_exp q w0 w1 w2 = .null := by unfold own_exp; rw [if_neg (fun z => c0 z.symm), if_neg (fun z => c1 z.symm), if_neg (fun z => c2 z.symm)]
    show own_G p.tables e below s₁ (mkF m 17 #[.val (.long p1), .second, .val (.int p2), .val (.long q), .second, .unset, .unset, .unset] []) _
    refine own_go (fun t_ k_ => XS.lloadN X0.here hx rfl (hb hby at_17) rfl k_) ?_
    show own_G p.tables e below s₁ (mkF m 18 #[.val (.long p1), .second, .val (.int p2), .val (.long q), .second, .unset, .unset, .unset] [(.long q)]) _
    obtain ⟨_, _, ⟨T40, L40, k40, n40⟩, -, X40, ⟨Lc40, hQ40, l40, y40, z40⟩, st40⟩ := Jvm.LawKit.callS X0 hx (y := (⟨"com/example/atmost1/atmost1/server/UnlockStatusOfPinLaw", "expectedFor", "(J)Lcom/example/atmost1/atmost1/server/UnlockStatus;"⟩ : MethodName)) hown (mvT hZ (hw _ (List.mem_of_getElem? (i := 0) rfl))) (mvT hZ (hw _ (List.mem_of_getElem? (i := 1) rfl))) (mvT hZ (hw _ (List.mem_of_getElem? (i := 2) rfl))) (mvT hZ (hw _ (List.mem_of_getElem? (i := 3) rfl))) (by decide) (backOf (W := 0) (rm1 l Z a0 hw [] q w0 w1 w2 h0 n0 Z0 S_RELEASED S_NOT_HELD S_NOT_OWNER) hZ (hw _ (List.mem_of_getElem? (i := 3) rfl)) (hw _ (List.mem_of_getElem? (i := 2) rfl)) (by decide) (by decide)) (g := (mkF m 18 #[.val (.long p1), .second, .val (.int p2), .val (.long q), .second, .unset, .unset, .unset] [(.long q)])) rfl (by rw [hml]; rfl) (argsL := [(.long q)]) (rest := []) (lenOf own_pd5 rfl) rfl (by show 2 * 0 + _ ≤ _; exact Nat.le_of_eq rfl) (hb hby at_18) (fun _ _ => ⟨rfl, e0, (by decide : 0 + 0 ≤ _), (by decide : 0 + 0 ≤ _)⟩)
    dsimp only [Pt.U, Pt.locs, Pt.cells, Pt.slots] at X40 l40 y40 z40 st40 hQ40
    subst l40 y40 z40
    obtain ⟨rfl, N40q, e40⟩ := hQ40
    have N40 := Fr.app N0 N40q
    refine own_go st40 ?_
    show own_G p.tables e below T40 (mkF m 21 #[.val (.long p1), .second, .val (.int p2), .val (.long q), .second, .unset, .unset, .unset] [(own_exp q w0 w1 w2)]) _
    rw [hx_]
    show own_G p.tables e below T40 (mkF m 21 #[.val (.long p1), .second, .val (.int p2), .val (.long q), .second, .unset, .unset, .unset] [.null]) _
    refine own_go (fun t_ k_ => XS.astore X40.here hx rfl (hb hby at_21) rfl rfl (l' := #[.val (.long p1), .second, .val (.int p2), .val (.long q), .second, .val .null, .unset, .unset]) rfl k_) ?_
    show own_G p.tables e below T40 (mkF m 23 #[.val (.long p1), .second, .val (.int p2), .val (.long q), .second, .val .null, .unset, .unset] []) _
    refine own_go (fun t_ k_ => XS.lloadN X40.here hx rfl (hb hby at_23) rfl k_) ?_
    show own_G p.tables e below T40 (mkF m 24 #[.val (.long p1), .second, .val (.int p2), .val (.long q), .second, .val .null, .unset, .unset] [(.long q)]) _
    obtain ⟨_, _, ⟨T41, L41, k41, n41⟩, -, X41, ⟨Lc41, hQ41, l41, y41, z41⟩, st41⟩ := Jvm.LawKit.callS X40 hx (y := (⟨"com/example/atmost1/atmost1/server/UnlockStatus", "of", "(J)Ljava/util/Optional;"⟩ : MethodName)) hown (mvT hZ (hw _ (List.mem_of_getElem? (i := 5) rfl))) (mvT hZ (hw _ (List.mem_of_getElem? (i := 6) rfl))) (mvT hZ (hw _ (List.mem_of_getElem? (i := 7) rfl))) (mvT hZ (hw _ (List.mem_of_getElem? (i := 8) rfl))) (by decide) (backOf (W := 0) (rm2 l Z a0 hw [] q aV clV w0 w1 w2 aE h0 n0 Z0 S_V A_V E_V Fit_V sz_V l0 l1 l2 F0 F1 F2 S_E E_E F_E) hZ (hw _ (List.mem_of_getElem? (i := 8) rfl)) (hw _ (List.mem_of_getElem? (i := 7) rfl)) (by decide) (by decide)) (g := (mkF m 24 #[.val (.long p1), .second, .val (.int p2), .val (.long q), .second, .val .null, .unset, .unset] [(.long q)])) rfl (by rw [hml]; rfl) (argsL := [(.long q)]) (rest := []) (lenOf own_pd6 rfl) rfl (by show 2 * 0 + _ ≤ _; exact Nat.le_of_eq rfl) (hb hby at_24) (fun _ _ => ⟨rfl, e40, (by decide : 0 + 2 ≤ _), (by decide : 0 + 4 ≤ _)⟩)
    dsimp only [Pt.U, Pt.locs, Pt.cells, Pt.slots] at X41 l41 y41 z41 st41 hQ41
    subst l41 y41 z41
    obtain ⟨o41, rfl, N41q, K41, Eo41, Fo41⟩ := hQ41
    have N41 := Fr.app N40 N41q
    refine own_go st41 ?_
    show own_G p.tables e below T41 (mkF m 27 #[.val (.long p1), .second, .val (.int p2), .val (.long q), .second, .val .null, .unset, .unset] [(.ref o41)]) _
    rw [hv] at Fo41
    refine own_go (fun t_ k_ => XS.astore X41.here hx rfl (hb hby at_27) rfl rfl (l' := #[.val (.long p1), .second, .val (.int p2), .val (.long q), .second, .val .null, .val (.ref o41), .unset]) rfl k_) ?_
    show own_G p.tables e below T41 (mkF m 29 #[.val (.long p1), .second, .val (.int p2), .val (.long q), .second, .val .null, .val (.ref o41), .unset] []) _
    refine own_go (fun t_ k_ => XS.aload X41.here hx rfl (hb hby at_29) rfl rfl k_) ?_
    show own_G p.tables e below T41 (mkF m 31 #[.val (.long p1), .second, .val (.int p2), .val (.long q), .second, .val .null, .val (.ref o41), .unset] [.null]) _
    refine own_go (fun t_ k_ => XS.ifnonnullNo X41.here hx rfl (hb hby at_31) rfl k_) ?_
    show own_G p.tables e below T41 (mkF m 34 #[.val (.long p1), .second, .val (.int p2), .val (.long q), .second, .val .null, .val (.ref o41), .unset] []) _
    refine own_go (fun t_ k_ => XS.aload X41.here hx rfl (hb hby at_34) rfl rfl k_) ?_
    show own_G p.tables e below T41 (mkF m 36 #[.val (.long p1), .second, .val (.int p2), .val (.long q), .second, .val .null, .val (.ref o41), .unset] [(.ref o41)]) _
    have f42 : n0 ≤ T41.heap.size := (Nat.le_trans Z0 K41.1)
    have f43 : Exa Z T41.heap w0 "com/example/atmost1/atmost1/server/UnlockStatus" := (E0.keep K41)
    have f44 : Fld Z T41.heap w0 "com/example/atmost1/atmost1/server/UnlockStatus" "code" "I" (.int (0 : Int32)) := (F0.keep K41 List.not_mem_nil)
    have f45 : Exa Z T41.heap w1 "com/example/atmost1/atmost1/server/UnlockStatus" := (E1.keep K41)
    have f46 : Fld Z T41.heap w1 "com/example/atmost1/atmost1/server/UnlockStatus" "code" "I" (.int (1 : Int32)) := (F1.keep K41 List.not_mem_nil)
    have f47 : Exa Z T41.heap w2 "com/example/atmost1/atmost1/server/UnlockStatus" := (E2.keep K41)
    have f48 : Fld Z T41.heap w2 "com/example/atmost1/atmost1/server/UnlockStatus" "code" "I" (.int (2 : Int32)) := (F2.keep K41 List.not_mem_nil)
    obtain ⟨cq49, kq49, q49a, q49b, q49c⟩ := isOf hZ rfl Eo41
    obtain ⟨_, _, ⟨T49, L49, k49, n49⟩, -, X49, ⟨Lc49, hQ49, l49, y49, z49⟩, st49⟩ := X41.virtualBack hx (y := (⟨"java/util/Optional", "isPresent", "()Z"⟩ : MethodName)) (z := (⟨"java/util/Optional", "isPresent", "()Z"⟩ : MethodName)) hown (mvT hZ (hw _ (List.mem_of_getElem? (i := 34) rfl))) (mvT hZ (hw _ (List.mem_of_getElem? (i := 35) rfl))) (notFace_of_selects (args := #[]) (mvT hZ (hw _ (List.mem_of_getElem? (i := 37) rfl)))) (mvT hZ (hw _ (List.mem_of_getElem? (i := 37) rfl))) (mvT hZ (hw _ (List.mem_of_getElem? (i := 36) rfl))) (by decide) (backOf (W := 0) (rm5 l Z a0 hw [] o41 .null T41.heap n0 f42 Fo41 rfl) hZ (hw _ (List.mem_of_getElem? (i := 38) rfl)) (hw _ (List.mem_of_getElem? (i := 11) rfl)) (by decide) (by decide)) q49a q49c (g := (mkF m 36 #[.val (.long p1), .second, .val (.int p2), .val (.long q), .second, .val .null, .val (.ref o41), .unset] [(.ref o41)])) rfl (by rw [hml]; rfl) (Steps.refl _) (argsL := []) (rest := []) (lenOf own_pd7 rfl) rfl (by show 2 * 0 + _ ≤ _; exact Nat.le_of_eq rfl) (hb hby at_36) (fun _ _ => ⟨rfl, rfl, (by decide : 2 + 0 ≤ _), (by decide : 4 + 0 ≤ _)⟩)
    dsimp only [Pt.U, Pt.locs, Pt.cells, Pt.slots] at X49 l49 y49 z49 st49 hQ49
    subst l49 y49 z49
    obtain ⟨rfl, N49q, e49⟩ := hQ49
    have N49 := Fr.app N41 N49q
    refine own_go (fun t_ k_ => st49.trans k_) ?_
    show own_G p.tables e below T49 (mkF m 39 #[.val (.long p1), .second, .val (.int p2), .val (.long q), .second, .val .null, .val (.ref o41), .unset] [(.int (0 : Int32))]) _
    refine own_go (fun t_ k_ => XS.ifNo X49.here hx rfl (hb hby at_39) rfl ((if0 _ _).trans (teq (by decide : ((0 : Int32) = (0 : Int32)))).2) k_) ?_
    show own_G p.tables e below T49 (mkF m 42 #[.val (.long p1), .second, .val (.int p2), .val (.long q), .second, .val .null, .val (.ref o41), .unset] []) _
    refine own_go (fun t_ k_ => XS.iconst X49.here hx rfl (hb hby at_42) k_) ?_
    show own_G p.tables e below T49 (mkF m 43 #[.val (.long p1), .second, .val (.int p2), .val (.long q), .second, .val .null, .val (.ref o41), .unset] [(.int (1 : Int32))]) _
    refine own_go (fun t_ k_ => XS.goto X49.here hx rfl (pc0 := 43) (pc' := 47) rfl (hb hby at_43) (by decide) (by decide) k_) ?_
    show own_G p.tables e below T49 (mkF m 47 #[.val (.long p1), .second, .val (.int p2), .val (.long q), .second, .val .null, .val (.ref o41), .unset] [(.int (1 : Int32))]) _
    exact own_end (v := some (.int (1 : Int32))) X49 Bd.notSynchronized (fun h => by rw [Bd.returns] at h; cases h) (fun fs hr => retN X49 hx (z := (1 : Int32)) (t := .boolean) Bd.returns (by simp) (hb hby at_47) hr) e49 ⟨rfl, N49⟩ (by decide) (by decide)
  show own_G p.tables e below s₁ (mkF m 0 #[.val (.long p1), .second, .val (.int p2), .unset, .unset, .unset, .unset, .unset] []) _
  refine own_go (fun t_ k_ => XS.iloadN X0.here hx rfl (hb hby at_0) rfl k_) ?_
  show own_G p.tables e below s₁ (mkF m 1 #[.val (.long p1), .second, .val (.int p2), .unset, .unset, .unset, .unset, .unset] [(.int p2)]) _
  refine own_go (fun t_ k_ => XS.iconst X0.here hx rfl (hb hby at_1) k_) ?_
  show own_G p.tables e below s₁ (mkF m 2 #[.val (.long p1), .second, .val (.int p2), .unset, .unset, .unset, .unset, .unset] [(.int (1 : Int32)), (.int p2)]) _
  refine own_go (fun t_ k_ => XS.iand X0.here hx rfl (hb hby at_2) rfl k_) ?_
  show own_G p.tables e below s₁ (mkF m 3 #[.val (.long p1), .second, .val (.int p2), .unset, .unset, .unset, .unset, .unset] [(.int (p2 &&& (1 : Int32)))]) _
  by_cases hc3_50 : (p2 &&& (1 : Int32)) = (0 : Int32)
  · skip
    refine own_go (fun t_ k_ => XS.ifYes X0.here hx rfl (pc0 := 3) (pc' := 15) rfl (hb hby at_3) rfl ((if0 _ _).trans (teq hc3_50).1) (by decide) (by decide) k_) ?_
    show own_G p.tables e below s₁ (mkF m 15 #[.val (.long p1), .second, .val (.int p2), .unset, .unset, .unset, .unset, .unset] []) _
    refine own_go (fun t_ k_ => XS.lloadN X0.here hx rfl (hb hby at_15) rfl k_) ?_
    show own_G p.tables e below s₁ (mkF m 16 #[.val (.long p1), .second, .val (.int p2), .unset, .unset, .unset, .unset, .unset] [(.long p1)]) _
    refine own_go (fun t_ k_ => XS.lstoreN X0.here hx rfl (hb hby at_16) rfl (l' := #[.val (.long p1), .second, .val (.int p2), .val (.long p1), .second, .unset, .unset, .unset]) rfl k_) ?_
    show own_G p.tables e below s₁ (mkF m 17 #[.val (.long p1), .second, .val (.int p2), .val (.long p1), .second, .unset, .unset, .unset] []) _
    exact tail _
  · skip
    refine own_go (fun t_ k_ => XS.ifNo X0.here hx rfl (hb hby at_3) rfl ((if0 _ _).trans (feq hc3_50).1) k_) ?_
    show own_G p.tables e below s₁ (mkF m 6 #[.val (.long p1), .second, .val (.int p2), .unset, .unset, .unset, .unset, .unset] []) _
    refine own_go (fun t_ k_ => XS.iloadN X0.here hx rfl (hb hby at_6) rfl k_) ?_
    show own_G p.tables e below s₁ (mkF m 7 #[.val (.long p1), .second, .val (.int p2), .unset, .unset, .unset, .unset, .unset] [(.int p2)]) _
    refine own_go (fun t_ k_ => XS.iconst X0.here hx rfl (hb hby at_7) k_) ?_
    show own_G p.tables e below s₁ (mkF m 8 #[.val (.long p1), .second, .val (.int p2), .unset, .unset, .unset, .unset, .unset] [(.int (1 : Int32)), (.int p2)]) _
    refine own_go (fun t_ k_ => XS.iushr X0.here hx rfl (hb hby at_8) rfl k_) ?_
    show own_G p.tables e below s₁ (mkF m 9 #[.val (.long p1), .second, .val (.int p2), .unset, .unset, .unset, .unset, .unset] [(.int ((p2.toUInt32 >>> ((1 : Int32) &&& 31).toUInt32).toInt32))]) _
    refine own_go (fun t_ k_ => XS.iconst X0.here hx rfl (hb hby at_9) k_) ?_
    show own_G p.tables e below s₁ (mkF m 10 #[.val (.long p1), .second, .val (.int p2), .unset, .unset, .unset, .unset, .unset] [(.int (3 : Int32)), (.int ((p2.toUInt32 >>> ((1 : Int32) &&& 31).toUInt32).toInt32))]) _
    refine own_go (fun t_ k_ => XS.iand X0.here hx rfl (hb hby at_10) rfl k_) ?_
    show own_G p.tables e below s₁ (mkF m 11 #[.val (.long p1), .second, .val (.int p2), .unset, .unset, .unset, .unset, .unset] [(.int (((p2.toUInt32 >>> ((1 : Int32) &&& 31).toUInt32).toInt32) &&& (3 : Int32)))]) _
    refine own_go (fun t_ k_ => XS.i2l X0.here hx rfl (hb hby at_11) rfl k_) ?_
    show own_G p.tables e below s₁ (mkF m 12 #[.val (.long p1), .second, .val (.int p2), .unset, .unset, .unset, .unset, .unset] [(.long ((((p2.toUInt32 >>> ((1 : Int32) &&& 31).toUInt32).toInt32) &&& (3 : Int32)).toInt64))]) _
    refine own_go (fun t_ k_ => XS.goto X0.here hx rfl (pc0 := 12) (pc' := 16) rfl (hb hby at_12) (by decide) (by decide) k_) ?_
    show own_G p.tables e below s₁ (mkF m 16 #[.val (.long p1), .second, .val (.int p2), .unset, .unset, .unset, .unset, .unset] [(.long ((((p2.toUInt32 >>> ((1 : Int32) &&& 31).toUInt32).toInt32) &&& (3 : Int32)).toInt64))]) _
    refine own_go (fun t_ k_ => XS.lstoreN X0.here hx rfl (hb hby at_16) rfl (l' := #[.val (.long p1), .second, .val (.int p2), .val (.long ((((p2.toUInt32 >>> ((1 : Int32) &&& 31).toUInt32).toInt32) &&& (3 : Int32)).toInt64)), .second, .unset, .unset, .unset]) rfl k_) ?_
    show own_G p.tables e below s₁ (mkF m 17 #[.val (.long p1), .second, .val (.int p2), .val (.long ((((p2.toUInt32 >>> ((1 : Int32) &&& 31).toUInt32).toInt32) &&& (3 : Int32)).toInt64)), .second, .unset, .unset, .unset] []) _
    exact tail _
set_option maxRecDepth 65536 in
set_option maxHeartbeats 40000000 in
theorem comes_1 {Post : Tables → Env → Array Value → State → Outcome → State → Prop} (hpost : ∀ tb e args s v u, (limb_1_1.after args s (.returned v) u = true ∧ limb_1_2.after args s (.returned v) u = true ∧ True) → FrameEnd s (.returned v) u (Jvm.fieldLocs frame_1_writes args s ++ Jvm.arrayLocs frame_1_arrays args s ++ Jvm.staticLocs frame_1_statics s) 16 128 → Post tb e args s (.returned v) u) :
    ArmFor flags0 classFile x code maxLocals ret World_1 tables_1 room_1 Calls_1 rest_1 Pre_1 Post := by
  intro l hfl _ _ p e ha hc hk s m args below hf hA hF happ hP
  obtain ⟨hcalls, hrest, hpre⟩ := hP
  obtain ⟨-, -, -, hnamed, -, -, -, hat⟩ := (Spec.applies_iff hf).mp happ
  obtain ⟨hg, hn⟩ := and_e (Cond.before_iff.mp (show (Jvm.Cond.and given_1 narrow_1).before args s = true from hpre))
  obtain ⟨g0, gr0⟩ := and_e hg
  obtain ⟨g1, gr1⟩ := and_e gr0
  obtain ⟨w0, w1, rfl⟩ : ∃ w0 w1 : Value, args = #[w0, w1] := by
    have hs : args.size = 2 := by simpa [Cond.value, given_1] using g0
    obtain ⟨L⟩ := args
    match L, hs with
    | [w0, w1], _ => exact ⟨w0, w1, rfl⟩
  have hw := fun d (hd : d ∈ tables_1) => atoms_spec (ws := Jvm.Cond.code x code maxLocals ret :: tables_1) hat d (List.mem_cons_of_mem _ hd)
  have hfit : Fit s := fun {y c} hc i hi => by
    obtain ⟨ha, rfl⟩ := Array.getElem?_eq_some_iff.mp hc
    have q := List.all_eq_true.mp ((Array.all_eq_true_iff_forall_mem.mp hF) _ (Array.getElem_mem ha)) i (List.mem_range.mpr hi)
    simpa [Array.getElem?_eq_getElem hi] using q
  obtain ⟨hsets, hown0⟩ := atoms_of _ (rest_1_c_eq ▸ (show rest_1_c.before _ s = true from hrest))
  have hr0 := Cond.before_iff.mp hown0
  obtain ⟨i0, ei0⟩ := isL_v g1
  obtain rfl : w0 = (.long i0) := Option.some.inj ei0
  obtain ⟨i1, ei1⟩ := is_v gr1
  obtain rfl : w1 = (.int i1) := Option.some.inj ei1
  obtain ⟨x0, hn⟩ := and_e hn
  obtain ⟨x1, hn⟩ := and_e hn
  obtain ⟨x2, hn⟩ := and_e hn
  obtain ⟨x3, hn⟩ := and_e hn
  obtain ⟨x4, hn⟩ := and_e hn
  obtain ⟨x5, hn⟩ := and_e hn
  obtain ⟨x6, hn⟩ := and_e hn
  obtain ⟨x7, hn⟩ := and_e hn
  obtain ⟨x8, hn⟩ := and_e hn
  obtain ⟨x9, hn⟩ := and_e hn
  obtain ⟨x10, hn⟩ := and_e hn
  have x11 := hn
  obtain ⟨aV, vV⟩ := arr_v x0
  obtain ⟨clV, A_V⟩ := Arr.start vV x0
  have haV : s.arrayAt? aV = some clV := A_V.fin (Vm.Alike.refl _)
  have E_V := Exa.start vV x1
  have Fit_V := FitC.start hfit A_V
  obtain ⟨hsV, hlV⟩ := own_len vV haV x2
  have sz_V : clV.slots.size = 3 := by have := len_toInt hsV; rw [hlV] at this; have h2 : (3 : Int32).toInt = 3 := rfl; omega
  have S_V := Sta.start vV (Or.inr ⟨(hw _ (List.mem_of_getElem? (i := 7) rfl)), (hw _ (List.mem_of_getElem? (i := 18) rfl))⟩)
  obtain ⟨w0, v0⟩ := exa_v x3
  have E0 := Exa.start v0 x3
  have S_RELEASED := Sta.start v0 (Or.inr ⟨(hw _ (List.mem_of_getElem? (i := 7) rfl)), (hw _ (List.mem_of_getElem? (i := 26) rfl))⟩)
  have F0 := Fld.start (own_field v0 x9)
  have l0 := own_elemR vV haV (j := 0) (by decide) v0 x4
  obtain ⟨w1, v1⟩ := exa_v x5
  have E1 := Exa.start v1 x5
  have S_NOT_HELD := Sta.start v1 (Or.inr ⟨(hw _ (List.mem_of_getElem? (i := 7) rfl)), (hw _ (List.mem_of_getElem? (i := 27) rfl))⟩)
  have F1 := Fld.start (own_field v1 x10)
  have l1 := own_elemR vV haV (j := 1) (by decide) v1 x6
  obtain ⟨w2, v2⟩ := exa_v x7
  have E2 := Exa.start v2 x7
  have S_NOT_OWNER := Sta.start v2 (Or.inr ⟨(hw _ (List.mem_of_getElem? (i := 7) rfl)), (hw _ (List.mem_of_getElem? (i := 28) rfl))⟩)
  have F2 := Fld.start (own_field v2 x11)
  have l2 := own_elemR vV haV (j := 2) (by decide) v2 x8
  have z2 := Cond.before_iff.mp (hsets _ (List.mem_of_getElem? (i := 2) rfl))
  obtain ⟨aE, vE⟩ := exa_v z2
  have E_E := Exa.start vE z2
  have S_E := Sta.start vE (Or.inl (hsets _ (List.mem_of_getElem? (i := 1) rfl)))
  have F_E := Fld.start ((fld_at vE).symm.trans (null_v (Cond.before_iff.mp (hsets _ (List.mem_of_getElem? (i := 3) rfl)))))
  obtain ⟨n, o, h1, h2, h3, _, L, rfl, ⟨rfl, N⟩, hq⟩ := rm0 l s _ hw tables_1 i0 i1 aV clV w0 w1 w2 aE s.heap s.heap.size (Nat.le_refl _) S_V A_V E_V Fit_V sz_V l0 l1 l2 F0 F1 F2 S_E E_E F_E S_RELEASED S_NOT_HELD S_NOT_OWNER E0 E1 E2 p e ha hc hk s m _ below hf ((Spec.applies_iff_loose hf).mp happ).1 ⟨rfl, State.Warmed39.refl s, rfl⟩ trivial
  refine ⟨n, _, h1, h2, h3, hpost _ _ _ _ _ _ ⟨Cond.after_iff.mpr rfl, Cond.after_iff.mpr (eq_i res_at (Term.int_eval (1)) rfl), trivial⟩ ⟨hq.1, hq.2.1, (hq.2.2.sift fun y hy => Or.inr (N y hy)).mono (by decide) (by decide)⟩⟩
theorem main_1_1 : Claimed_1_1 := comes_1 fun _ _ _ _ _ _ h hF => ⟨h.1, hF⟩
theorem main_1_2 : Claimed_1_2 := comes_1 fun _ _ _ _ _ _ h hF => ⟨h.2.1, hF⟩
end Jvm.Pilot.@@N@@
namespace Jvm.Pilot.@@N@@
open Jvm Jvm.ClassFile Sem Op Lib Jvm.Free Jvm.Stand Jvm.Pilot.@@N@@.Jvm.D
/-! MADE BY PROGRAM (witnessworld.py) out of the Statement's table words and the real class files: 15 classes; the members and pool entries that the words name. The judged class is class 1, her method 1. -/
namespace start1
open Jvm.ClassFile
def u (s : String) : CpInfo := .utf8 (stringToUtf16 s)
/-- a pool by its gaps: so many unusable entries, then the entry; so many at the end -/
def gap : Nat → List CpInfo → List CpInfo
  | 0, r => r
  | n + 1, r => .unusable :: gap n r
def poolList (es : List (Nat × CpInfo)) (last : Nat) : List CpInfo := es.foldr (fun e r => gap e.1 (e.2 :: r)) (gap last [])
def pool (es : List (Nat × CpInfo)) (last : Nat) : Array CpInfo := ⟨poolList es last⟩
def fileOf (pool : Array CpInfo) (this : Nat) (attrs : Array Attribute := #[]) (ms : Array MethodInfo := #[]) (fl : Nat := 33) (sup : Nat := 0) (ifs : Array Nat := #[]) (fds : Array FieldInfo := #[]) : ClassFile where
  minorVersion := 0
  majorVersion := 65
  constantPool := pool
  accessFlags := fl
  thisClass := this
  superClass := sup
  interfaces := ifs
  fields := fds
  methods := ms
  attributes := attrs
def plain (name : String) (sup : Option ClassId) : Class where
  name := name
  kind := .ordinary
  loader := none
  accessFlags := 33
  super := sup
  interfaces := #[]
  cf := none
  fields := #[]
  methods := #[]
  instanceTypes := #[]
  staticTypes := #[]
  resolved := #[]
  callSites := []
  init := .initialized
  statics := none
  mirror := none

def pool0 : Array CpInfo := pool [(5, u "<init>"), (0, u "()V"), (1, .class_ 10), (1, u "java/lang/Object"), (85, u "clone"), (0, u "()Ljava/lang/Object;")] 26

def k0c0 : Code := { maxStack := 0, maxLocals := 1, code := object_method_1_code, exceptionTable := #[], attributes := #[] }
def k0m0 : Method := { name := "<init>", desc := "()V", sig := { parameters := [], returnType := none }, accessFlags := 1, code := some k0c0 }
def k0m1 : Method := { name := "clone", desc := "()Ljava/lang/Object;", sig := { parameters := [], returnType := some (.object "java/lang/Object") }, accessFlags := 260, code := none }
/-- java/lang/Object -/
def k0 : Class := { plain "java/lang/Object" none with
  accessFlags := 33
  interfaces := #[]
  cf := some (fileOf pool0 8 #[] #[{ accessFlags := 1, nameIndex := 5, descriptorIndex := 6, attributes := #[] }, { accessFlags := 260, nameIndex := 96, descriptorIndex := 97, attributes := #[] }] 33 0 #[] #[])
  fields := #[]
  methods := #[k0m0, k0m1]
  instanceTypes := #[]
  staticTypes := #[]
  resolved := Array.replicate 124 none
  statics := none }

def pool1 : Array CpInfo := pool [(2, .class_ 4), (1, u "java/lang/Object"), (0, u "<init>"), (0, u "()V"), (0, .methodref 8 9), (0, .class_ 10), (0, .nameAndType 11 12), (0, u "com/example/atmost1/atmost1/server/UnlockStatusOfPinLaw"), (0, u "expectedFor"), (0, u "(J)Lcom/example/atmost1/atmost1/server/UnlockStatus;"), (0, .methodref 14 15), (0, .class_ 16), (0, .nameAndType 17 18), (0, u "com/example/atmost1/atmost1/server/UnlockStatus"), (0, u "of"), (0, u "(J)Ljava/util/Optional;"), (0, .methodref 20 21), (0, .class_ 22), (0, .nameAndType 23 24), (0, u "java/util/Optional"), (0, u "isPresent"), (0, u "()Z"), (0, .methodref 20 26), (0, .nameAndType 27 28), (0, u "get"), (0, u "()Ljava/lang/Object;"), (0, .methodref 14 30), (0, .nameAndType 31 32), (0, u "code"), (0, u "()I"), (0, .fieldref 14 34), (0, .nameAndType 35 36), (0, u "RELEASED"), (0, u "Lcom/example/atmost1/atmost1/server/UnlockStatus;"), (0, .fieldref 14 38), (0, .nameAndType 39 36), (0, u "NOT_HELD"), (0, .long 2), (1, .fieldref 14 43), (0, .nameAndType 44 36), (0, u "NOT_OWNER"), (2, u "law"), (0, u "(JI)Z")] 3

def k1m0 : Method := { name := "<init>", desc := "()V", sig := { parameters := [], returnType := none }, accessFlags := 1, code := none }
def k1c1 : Code := { maxStack := 4, maxLocals := 8, code := code, exceptionTable := #[], attributes := #[] }
def k1m1 : Method := { name := "law", desc := "(JI)Z", sig := { parameters := [.long, .int], returnType := some .boolean }, accessFlags := 9, code := some k1c1 }
def k1c2 : Code := { maxStack := 4, maxLocals := 2, code := method_3_code, exceptionTable := #[], attributes := #[] }
def k1m2 : Method := { name := "expectedFor", desc := "(J)Lcom/example/atmost1/atmost1/server/UnlockStatus;", sig := { parameters := [.long], returnType := some (.object "com/example/atmost1/atmost1/server/UnlockStatus") }, accessFlags := 10, code := some k1c2 }
/-- com/example/atmost1/atmost1/server/UnlockStatusOfPinLaw -/
def k1 : Class := { plain "com/example/atmost1/atmost1/server/UnlockStatusOfPinLaw" (some 0) with
  accessFlags := 49
  interfaces := #[]
  cf := some (fileOf pool1 8 #[] #[{ accessFlags := 1, nameIndex := 5, descriptorIndex := 6, attributes := #[] }, { accessFlags := 9, nameIndex := 47, descriptorIndex := 48, attributes := #[] }, { accessFlags := 10, nameIndex := 11, descriptorIndex := 12, attributes := #[] }] 49 2 #[] #[])
  fields := #[]
  methods := #[k1m0, k1m1, k1m2]
  instanceTypes := #[]
  staticTypes := #[]
  resolved := Array.replicate 52 none
  statics := none }

def pool2 : Array CpInfo := pool [(1, .class_ 2), (0, u "java/lang/constant/Constable"), (0, .class_ 4), (0, u "java/lang/Object")] 6

/-- java/lang/constant/Constable -/
def k2 : Class := { plain "java/lang/constant/Constable" (some 0) with
  accessFlags := 1537
  interfaces := #[]
  cf := some (fileOf pool2 1 #[] #[] 1537 3 #[] #[])
  fields := #[]
  methods := #[]
  instanceTypes := #[]
  staticTypes := #[]
  resolved := Array.replicate 11 none
  statics := none }

def pool3 : Array CpInfo := pool [(1, .class_ 2), (0, u "java/lang/Comparable"), (0, .class_ 4), (0, u "java/lang/Object")] 7

/-- java/lang/Comparable -/
def k3 : Class := { plain "java/lang/Comparable" (some 0) with
  accessFlags := 1537
  interfaces := #[]
  cf := some (fileOf pool3 1 #[] #[] 1537 3 #[] #[])
  fields := #[]
  methods := #[]
  instanceTypes := #[]
  staticTypes := #[]
  resolved := Array.replicate 12 none
  statics := none }

def pool4 : Array CpInfo := pool [(1, .class_ 2), (0, u "java/io/Serializable"), (0, .class_ 4), (0, u "java/lang/Object")] 2

/-- java/io/Serializable -/
def k4 : Class := { plain "java/io/Serializable" (some 0) with
  accessFlags := 1537
  interfaces := #[]
  cf := some (fileOf pool4 1 #[] #[] 1537 3 #[] #[])
  fields := #[]
  methods := #[]
  instanceTypes := #[]
  staticTypes := #[]
  resolved := Array.replicate 7 none
  statics := none }

def pool5 : Array CpInfo := pool [(2, .class_ 4), (1, u "java/lang/Enum"), (0, u "name"), (0, u "Ljava/lang/String;"), (2, u "ordinal"), (0, u "I"), (1, .class_ 14), (1, u "java/lang/Object"), (4, u "hash"), (86, .class_ 108), (1, u "java/lang/Enum$EnumDesc"), (2, .class_ 112), (0, u "java/lang/constant/Constable"), (0, .class_ 114), (0, u "java/lang/Comparable"), (0, .class_ 116), (0, u "java/io/Serializable")] 87

/-- java/lang/Enum -/
def k5 : Class := { plain "java/lang/Enum" (some 0) with
  accessFlags := 1057
  interfaces := #[2, 3, 4]
  cf := some (fileOf pool5 2 #[.nestMembers #[106]] #[] 1057 12 #[111, 113, 115] #[{ accessFlags := 18, nameIndex := 5, descriptorIndex := 6, attributes := #[] }, { accessFlags := 18, nameIndex := 9, descriptorIndex := 10, attributes := #[] }, { accessFlags := 2, nameIndex := 19, descriptorIndex := 10, attributes := #[] }])
  fields := #[{ name := "name", type := (.object "java/lang/String"), accessFlags := 18, slot := 0, constantValue := 0 }, { name := "ordinal", type := .int, accessFlags := 18, slot := 1, constantValue := 0 }, { name := "hash", type := .int, accessFlags := 2, slot := 2, constantValue := 0 }]
  methods := #[]
  instanceTypes := #[(.object "java/lang/String"), .int, .int]
  staticTypes := #[]
  resolved := Array.replicate 204 none
  statics := none }

def pool6 : Array CpInfo := pool [(1, .class_ 2), (0, u "com/example/atmost1/atmost1/server/UnlockStatus"), (2, u "RELEASED"), (0, u "Lcom/example/atmost1/atmost1/server/UnlockStatus;"), (2, u "NOT_HELD"), (2, u "NOT_OWNER"), (0, .fieldref 1 14), (0, .nameAndType 15 16), (0, u "$VALUES"), (0, u "[Lcom/example/atmost1/atmost1/server/UnlockStatus;"), (0, .methodref 18 19), (0, .class_ 16), (0, .nameAndType 20 21), (0, u "clone"), (0, u "()Ljava/lang/Object;"), (1, .class_ 25), (1, u "java/lang/Enum"), (6, .fieldref 1 33), (0, .nameAndType 34 35), (0, u "code"), (0, u "I"), (0, .methodref 37 38), (0, .class_ 39), (0, .nameAndType 40 41), (0, u "java/util/Optional"), (0, u "empty"), (0, u "()Ljava/util/Optional;"), (0, .methodref 1 43), (0, .nameAndType 44 45), (0, u "values"), (0, u "()[Lcom/example/atmost1/atmost1/server/UnlockStatus;"), (0, .methodref 37 47), (0, .nameAndType 48 49), (0, u "of"), (0, u "(Ljava/lang/Object;)Ljava/util/Optional;"), (15, u "()I"), (0, u "(J)Ljava/util/Optional;")] 7

def k6c0 : Code := { maxStack := 1, maxLocals := 0, code := prog_28_method_1_code, exceptionTable := #[], attributes := #[] }
def k6m0 : Method := { name := "values", desc := "()[Lcom/example/atmost1/atmost1/server/UnlockStatus;", sig := { parameters := [], returnType := some (.array (.object "com/example/atmost1/atmost1/server/UnlockStatus")) }, accessFlags := 9, code := some k6c0 }
def k6c1 : Code := { maxStack := 1, maxLocals := 1, code := prog_28_method_4_code, exceptionTable := #[], attributes := #[] }
def k6m1 : Method := { name := "code", desc := "()I", sig := { parameters := [], returnType := some .int }, accessFlags := 1, code := some k6c1 }
def k6c2 : Code := { maxStack := 4, maxLocals := 7, code := prog_28_method_5_code, exceptionTable := #[], attributes := #[] }
def k6m2 : Method := { name := "of", desc := "(J)Ljava/util/Optional;", sig := { parameters := [.long], returnType := some (.object "java/util/Optional") }, accessFlags := 9, code := some k6c2 }
/-- com/example/atmost1/atmost1/server/UnlockStatus -/
def k6 : Class := { plain "com/example/atmost1/atmost1/server/UnlockStatus" (some 5) with
  accessFlags := 16433
  interfaces := #[]
  cf := some (fileOf pool6 1 #[] #[{ accessFlags := 9, nameIndex := 44, descriptorIndex := 45, attributes := #[] }, { accessFlags := 1, nameIndex := 34, descriptorIndex := 65, attributes := #[] }, { accessFlags := 9, nameIndex := 48, descriptorIndex := 66, attributes := #[] }] 16433 23 #[] #[{ accessFlags := 16409, nameIndex := 5, descriptorIndex := 6, attributes := #[] }, { accessFlags := 16409, nameIndex := 9, descriptorIndex := 6, attributes := #[] }, { accessFlags := 16409, nameIndex := 12, descriptorIndex := 6, attributes := #[] }, { accessFlags := 18, nameIndex := 34, descriptorIndex := 35, attributes := #[] }, { accessFlags := 4122, nameIndex := 15, descriptorIndex := 16, attributes := #[] }])
  fields := #[{ name := "RELEASED", type := (.object "com/example/atmost1/atmost1/server/UnlockStatus"), accessFlags := 16409, slot := 0, constantValue := 0 }, { name := "NOT_HELD", type := (.object "com/example/atmost1/atmost1/server/UnlockStatus"), accessFlags := 16409, slot := 1, constantValue := 0 }, { name := "NOT_OWNER", type := (.object "com/example/atmost1/atmost1/server/UnlockStatus"), accessFlags := 16409, slot := 2, constantValue := 0 }, { name := "code", type := .int, accessFlags := 18, slot := 3, constantValue := 0 }, { name := "$VALUES", type := (.array (.object "com/example/atmost1/atmost1/server/UnlockStatus")), accessFlags := 4122, slot := 3, constantValue := 0 }]
  methods := #[k6m0, k6m1, k6m2]
  instanceTypes := #[(.object "java/lang/String"), .int, .int, .int]
  staticTypes := #[(.object "com/example/atmost1/atmost1/server/UnlockStatus"), (.object "com/example/atmost1/atmost1/server/UnlockStatus"), (.object "com/example/atmost1/atmost1/server/UnlockStatus"), (.array (.object "com/example/atmost1/atmost1/server/UnlockStatus"))]
  resolved := Array.replicate 74 none
  statics := some 0 }

def pool7 : Array CpInfo := pool [(1, .fieldref 2 3), (0, .class_ 4), (0, .nameAndType 5 6), (0, u "java/util/Optional"), (0, u "EMPTY"), (0, u "Ljava/util/Optional;"), (0, .methodref 8 9), (0, .class_ 10), (0, .nameAndType 11 12), (0, u "java/lang/Object"), (0, u "<init>"), (0, u "()V"), (0, .fieldref 2 14), (0, .nameAndType 15 16), (0, u "value"), (0, u "Ljava/lang/Object;"), (0, .methodref 18 19), (0, .class_ 20), (0, .nameAndType 21 22), (0, u "java/util/Objects"), (0, u "requireNonNull"), (0, u "(Ljava/lang/Object;)Ljava/lang/Object;"), (0, .methodref 2 24), (0, .nameAndType 11 25), (0, u "(Ljava/lang/Object;)V"), (20, u "()Z"), (8, u "empty"), (0, u "()Ljava/util/Optional;"), (8, u "(Ljava/lang/Object;)Ljava/util/Optional;"), (2, u "isPresent"), (4, u "get"), (0, u "()Ljava/lang/Object;"), (7, u "of")] 104

def k7c0 : Code := { maxStack := 1, maxLocals := 1, code := jdk_32_method_1_code, exceptionTable := #[], attributes := #[] }
def k7m0 : Method := { name := "empty", desc := "()Ljava/util/Optional;", sig := { parameters := [], returnType := some (.object "java/util/Optional") }, accessFlags := 9, code := some k7c0 }
def k7c1 : Code := { maxStack := 2, maxLocals := 2, code := jdk_32_method_2_code, exceptionTable := #[], attributes := #[] }
def k7m1 : Method := { name := "<init>", desc := "(Ljava/lang/Object;)V", sig := { parameters := [(.object "java/lang/Object")], returnType := none }, accessFlags := 2, code := some k7c1 }
def k7c2 : Code := { maxStack := 3, maxLocals := 1, code := jdk_32_method_3_code, exceptionTable := #[], attributes := #[] }
def k7m2 : Method := { name := "of", desc := "(Ljava/lang/Object;)Ljava/util/Optional;", sig := { parameters := [(.object "java/lang/Object")], returnType := some (.object "java/util/Optional") }, accessFlags := 9, code := some k7c2 }
def k7c3 : Code := { maxStack := 3, maxLocals := 1, code := jdk_32_method_5_code, exceptionTable := #[], attributes := #[] }
def k7m3 : Method := { name := "get", desc := "()Ljava/lang/Object;", sig := { parameters := [], returnType := some (.object "java/lang/Object") }, accessFlags := 1, code := some k7c3 }
def k7c4 : Code := { maxStack := 1, maxLocals := 1, code := jdk_32_method_6_code, exceptionTable := #[], attributes := #[] }
def k7m4 : Method := { name := "isPresent", desc := "()Z", sig := { parameters := [], returnType := some .boolean }, accessFlags := 1, code := some k7c4 }
/-- java/util/Optional -/
def k7 : Class := { plain "java/util/Optional" (some 0) with
  accessFlags := 49
  interfaces := #[]
  cf := some (fileOf pool7 2 #[] #[{ accessFlags := 9, nameIndex := 55, descriptorIndex := 56, attributes := #[] }, { accessFlags := 2, nameIndex := 11, descriptorIndex := 25, attributes := #[] }, { accessFlags := 9, nameIndex := 82, descriptorIndex := 65, attributes := #[] }, { accessFlags := 1, nameIndex := 73, descriptorIndex := 74, attributes := #[] }, { accessFlags := 1, nameIndex := 68, descriptorIndex := 46, attributes := #[] }] 49 8 #[] #[{ accessFlags := 26, nameIndex := 5, descriptorIndex := 6, attributes := #[] }, { accessFlags := 18, nameIndex := 15, descriptorIndex := 16, attributes := #[] }])
  fields := #[{ name := "EMPTY", type := (.object "java/util/Optional"), accessFlags := 26, slot := 0, constantValue := 0 }, { name := "value", type := (.object "java/lang/Object"), accessFlags := 18, slot := 0, constantValue := 0 }]
  methods := #[k7m0, k7m1, k7m2, k7m3, k7m4]
  instanceTypes := #[(.object "java/lang/Object")]
  staticTypes := #[(.object "java/util/Optional")]
  resolved := Array.replicate 187 none
  statics := some 1 }

def pool8 : Array CpInfo := pool [(1, .class_ 2), (0, u "java/lang/Cloneable"), (0, .class_ 4), (0, u "java/lang/Object")] 2

/-- java/lang/Cloneable -/
def k8 : Class := { plain "java/lang/Cloneable" (some 0) with
  accessFlags := 1537
  interfaces := #[]
  cf := some (fileOf pool8 1 #[] #[] 1537 3 #[] #[])
  fields := #[]
  methods := #[]
  instanceTypes := #[]
  staticTypes := #[]
  resolved := Array.replicate 7 none
  statics := none }

def pool9 : Array CpInfo := pool [(2, .class_ 4), (1, u "java/lang/Object"), (0, u "<init>"), (0, u "()V"), (35, .class_ 44), (1, u "java/util/Objects"), (0, u "requireNonNull"), (0, u "(Ljava/lang/Object;)Ljava/lang/Object;")] 137

def k9m0 : Method := { name := "<init>", desc := "()V", sig := { parameters := [], returnType := none }, accessFlags := 2, code := none }
def k9c1 : Code := { maxStack := 2, maxLocals := 1, code := jdk_31_method_10_code, exceptionTable := #[], attributes := #[] }
def k9m1 : Method := { name := "requireNonNull", desc := "(Ljava/lang/Object;)Ljava/lang/Object;", sig := { parameters := [(.object "java/lang/Object")], returnType := some (.object "java/lang/Object") }, accessFlags := 9, code := some k9c1 }
/-- java/util/Objects -/
def k9 : Class := { plain "java/util/Objects" (some 0) with
  accessFlags := 49
  interfaces := #[]
  cf := some (fileOf pool9 42 #[] #[{ accessFlags := 2, nameIndex := 5, descriptorIndex := 6, attributes := #[] }, { accessFlags := 9, nameIndex := 45, descriptorIndex := 46, attributes := #[] }] 49 2 #[] #[])
  fields := #[]
  methods := #[k9m0, k9m1]
  instanceTypes := #[]
  staticTypes := #[]
  resolved := Array.replicate 184 none
  statics := none }

/-- the primitive byte -/
def k10 : Class := { plain "byte" none with kind := .primitive 'B', accessFlags := 0x411 }
/-- [B -/
def k11 : Class := { plain "[B" (some 0) with kind := .array 10 .byte, interfaces := #[8, 4], accessFlags := 1041 }

/-- the primitive int -/
def k12 : Class := { plain "int" none with kind := .primitive 'I', accessFlags := 0x411 }
/-- [I -/
def k13 : Class := { plain "[I" (some 0) with kind := .array 12 .int, interfaces := #[8, 4], accessFlags := 1041 }

/-- [Lcom/example/atmost1/atmost1/server/UnlockStatus; -/
def k14 : Class := { plain "[Lcom/example/atmost1/atmost1/server/UnlockStatus;" (some 0) with kind := .array 6 (.object "com/example/atmost1/atmost1/server/UnlockStatus"), interfaces := #[8, 4], accessFlags := 1041 }

def heap : Heap := #[{ cls := 6, slots := #[.ref 3, .ref 4, .ref 5, .ref 2], vm := .statics 6 },
  { cls := 7, slots := #[.ref 6], vm := .statics 7 },
  { cls := 14, slots := #[.ref 3, .ref 4, .ref 5], vm := .none },
  { cls := 6, slots := #[.null, .int 0, .int 0, .int 0], vm := .none },
  { cls := 6, slots := #[.null, .int 1, .int 0, .int 1], vm := .none },
  { cls := 6, slots := #[.null, .int 2, .int 0, .int 2], vm := .none },
  { cls := 7, slots := #[.null], vm := .none }]
def classes : Array Class := #[k0, k1, k2, k3, k4, k5, k6, k7, k8, k9, k10, k11, k12, k13, k14]
def interned : List (Array UInt16 × Addr) := []
def slotsUsed : Nat := 21
def theMethod : MethodId := ⟨1, 1⟩
def args0 : Array Value := #[.long 1, .int 0]
def aboutOver (below : List Frame) : State where
  vm := { classes := classes, interned := interned.toArray }
  heap := heap
  slotsUsed := slotsUsed
  threads := #[{ frames := .invoking theMethod args0 :: below }]
def below0 : List Frame := [.native { method := ⟨0, 0⟩, args := #[] }]
def about1 : State := aboutOver below0
def p0 : Program := .bare "" "" ""
def e0 : Env := launch0.env 0 0 0
theorem w_frames : about1.frames = Frame.invoking theMethod args0 :: below0 := rfl
set_option maxRecDepth 65536 in
theorem w_args : argsFit about1.vm theMethod args0 = true := by decide +kernel
set_option maxRecDepth 65536 in
theorem w_heap : heapFits about1 = true := by decide +kernel
set_option maxRecDepth 65536 in
theorem w_runnable : about1.curStatus? = some .runnable := by decide +kernel
set_option maxRecDepth 65536 in
theorem w_alone : about1.alone = true := by decide +kernel
set_option maxRecDepth 65536 in
theorem w_named : about1.methodNamed? x = some theMethod := by decide +kernel
set_option maxRecDepth 65536 in
theorem w_hears : about1.hears theMethod below0 = true := by decide +kernel
set_option maxRecDepth 65536 in
theorem w_ripe : about1.ripe theMethod args0 below0 = true := by decide +kernel
theorem w_running : about1.status = .running := rfl
set_option maxRecDepth 65536 in
theorem w_room : about1.hasRoom e0.platform room_1 = true :=
  launch0.hasRoom_least _ room_1 (by decide +kernel) (by decide +kernel) (by decide +kernel) (by decide +kernel) (by decide +kernel) (by decide +kernel)
theorem allAtoms_all (ts : List Jvm.Cond) (a : Array Jvm.Value) (st : Jvm.State) : (allAtoms ts).before a st = ts.all (fun c => c.before a st) := by
  induction ts with
  | nil => rfl
  | cons c t ih =>
    show (Jvm.Cond.and c (allAtoms t)).before a st = _
    rw [Jvm.Cond.before_and, ih, List.all_cons]
def words1 : List Jvm.Cond := Jvm.Cond.code x code maxLocals ret :: tables_1
/-- a 'code' word, met by the world's own term for the bytes: nothing is compared byte by byte -/
theorem code_word {y : MethodName} {bytes : ByteArray} {mx : Nat} {rt : Option FieldType} {a : Array Value} {s : State} {m : MethodId} {meth : Method} {c : Code} (h1 : s.methodNamed? y = some m) (h2 : s.vm.method? m = some meth) (h3 : meth.code = some c) (h4 : c.code = bytes)
    (h5 : (c.maxLocals == mx && c.exceptionTable.isEmpty && decide (c.maxStack ≤ mostOperands) && decide (meth.sig.returnType = rt) && !meth.locks && decide (parseMethodDescriptor y.desc = some meth.sig)) = true) : (Jvm.Cond.code y bytes mx rt).before a s = true := by
  simp only [Bool.and_eq_true, beq_iff_eq, Bool.not_eq_true', decide_eq_true_eq] at h5
  obtain ⟨⟨⟨⟨⟨g1, g2⟩, g3⟩, g4⟩, g5⟩, g6⟩ := h5
  simp [Cond.before, Cond.holds, Cond.value, h1, h2, h3, h4, g1, g2, g3, g4, g5, g6]
def isCode : Jvm.Cond → Bool
  | .code _ _ _ _ => true
  | _ => false
theorem all_split {L : List Jvm.Cond} {P : Jvm.Cond → Bool} (h1 : L.all (fun c => isCode c || P c) = true) (h2 : ∀ c ∈ L.filter isCode, P c = true) : L.all P = true := by
  refine List.all_eq_true.mpr fun c hc => ?_
  have h := List.all_eq_true.mp h1 c hc
  rcases Bool.eq_false_or_eq_true (isCode c) with hi | hi
  · exact h2 c (List.mem_filter.mpr ⟨hc, hi⟩)
  · simpa [hi] using h
set_option maxRecDepth 65536 in
theorem w_c0 : (Jvm.Cond.code x code maxLocals ret).before args0 about1 = true := code_word (m := ⟨1, 1⟩) (meth := k1m1) (c := k1c1) (by decide +kernel) rfl rfl rfl (by decide +kernel)
set_option maxRecDepth 65536 in
theorem w_c1 : (Jvm.Cond.code ({ cls := "com/example/atmost1/atmost1/server/UnlockStatusOfPinLaw", name := "expectedFor", desc := "(J)Lcom/example/atmost1/atmost1/server/UnlockStatus;" } : Jvm.MethodName) method_3_code (2 : Nat) (Option.some (Jvm.ClassFile.FieldType.object "com/example/atmost1/atmost1/server/UnlockStatus"))).before args0 about1 = true := code_word (m := ⟨1, 2⟩) (meth := k1m2) (c := k1c2) (by decide +kernel) rfl rfl rfl (by decide +kernel)
set_option maxRecDepth 65536 in
theorem w_c2 : (Jvm.Cond.code ({ cls := "com/example/atmost1/atmost1/server/UnlockStatus", name := "of", desc := "(J)Ljava/util/Optional;" } : Jvm.MethodName) prog_28_method_5_code (7 : Nat) (Option.some (Jvm.ClassFile.FieldType.object "java/util/Optional"))).before args0 about1 = true := code_word (m := ⟨6, 2⟩) (meth := k6m2) (c := k6c2) (by decide +kernel) rfl rfl rfl (by decide +kernel)
set_option maxRecDepth 65536 in
theorem w_c3 : (Jvm.Cond.code ({ cls := "java/util/Optional", name := "empty", desc := "()Ljava/util/Optional;" } : Jvm.MethodName) jdk_32_method_1_code (1 : Nat) (Option.some (Jvm.ClassFile.FieldType.object "java/util/Optional"))).before args0 about1 = true := code_word (m := ⟨7, 0⟩) (meth := k7m0) (c := k7c0) (by decide +kernel) rfl rfl rfl (by decide +kernel)
set_option maxRecDepth 65536 in
theorem w_c4 : (Jvm.Cond.code ({ cls := "com/example/atmost1/atmost1/server/UnlockStatus", name := "values", desc := "()[Lcom/example/atmost1/atmost1/server/UnlockStatus;" } : Jvm.MethodName) prog_28_method_1_code (0 : Nat) (Option.some (Jvm.ClassFile.FieldType.array (Jvm.ClassFile.FieldType.object "com/example/atmost1/atmost1/server/UnlockStatus")))).before args0 about1 = true := code_word (m := ⟨6, 0⟩) (meth := k6m0) (c := k6c0) (by decide +kernel) rfl rfl rfl (by decide +kernel)
set_option maxRecDepth 65536 in
theorem w_c5 : (Jvm.Cond.code ({ cls := "java/util/Optional", name := "isPresent", desc := "()Z" } : Jvm.MethodName) jdk_32_method_6_code (1 : Nat) (Option.some Jvm.ClassFile.FieldType.boolean)).before args0 about1 = true := code_word (m := ⟨7, 4⟩) (meth := k7m4) (c := k7c4) (by decide +kernel) rfl rfl rfl (by decide +kernel)
set_option maxRecDepth 65536 in
theorem w_c6 : (Jvm.Cond.code ({ cls := "java/util/Optional", name := "of", desc := "(Ljava/lang/Object;)Ljava/util/Optional;" } : Jvm.MethodName) jdk_32_method_3_code (1 : Nat) (Option.some (Jvm.ClassFile.FieldType.object "java/util/Optional"))).before args0 about1 = true := code_word (m := ⟨7, 2⟩) (meth := k7m2) (c := k7c2) (by decide +kernel) rfl rfl rfl (by decide +kernel)
set_option maxRecDepth 65536 in
theorem w_c7 : (Jvm.Cond.code ({ cls := "java/util/Objects", name := "requireNonNull", desc := "(Ljava/lang/Object;)Ljava/lang/Object;" } : Jvm.MethodName) jdk_31_method_10_code (1 : Nat) (Option.some (Jvm.ClassFile.FieldType.object "java/lang/Object"))).before args0 about1 = true := code_word (m := ⟨9, 1⟩) (meth := k9m1) (c := k9c1) (by decide +kernel) rfl rfl rfl (by decide +kernel)
set_option maxRecDepth 65536 in
theorem w_c8 : (Jvm.Cond.code ({ cls := "java/util/Optional", name := "<init>", desc := "(Ljava/lang/Object;)V" } : Jvm.MethodName) jdk_32_method_2_code (2 : Nat) (Option.none : Option Jvm.ClassFile.FieldType)).before args0 about1 = true := code_word (m := ⟨7, 1⟩) (meth := k7m1) (c := k7c1) (by decide +kernel) rfl rfl rfl (by decide +kernel)
set_option maxRecDepth 65536 in
theorem w_c9 : (Jvm.Cond.code ({ cls := "java/lang/Object", name := "<init>", desc := "()V" } : Jvm.MethodName) object_method_1_code (1 : Nat) (Option.none : Option Jvm.ClassFile.FieldType)).before args0 about1 = true := code_word (m := ⟨0, 0⟩) (meth := k0m0) (c := k0c0) (by decide +kernel) rfl rfl rfl (by decide +kernel)
set_option maxRecDepth 65536 in
theorem w_c10 : (Jvm.Cond.code ({ cls := "java/util/Optional", name := "get", desc := "()Ljava/lang/Object;" } : Jvm.MethodName) jdk_32_method_5_code (1 : Nat) (Option.some (Jvm.ClassFile.FieldType.object "java/lang/Object"))).before args0 about1 = true := code_word (m := ⟨7, 3⟩) (meth := k7m3) (c := k7c3) (by decide +kernel) rfl rfl rfl (by decide +kernel)
set_option maxRecDepth 65536 in
theorem w_c11 : (Jvm.Cond.code ({ cls := "com/example/atmost1/atmost1/server/UnlockStatus", name := "code", desc := "()I" } : Jvm.MethodName) prog_28_method_4_code (1 : Nat) (Option.some Jvm.ClassFile.FieldType.int)).before args0 about1 = true := code_word (m := ⟨6, 1⟩) (meth := k6m1) (c := k6c1) (by decide +kernel) rfl rfl rfl (by decide +kernel)
def codes1 : List Jvm.Cond := [Jvm.Cond.code x code maxLocals ret, Jvm.Cond.code ({ cls := "com/example/atmost1/atmost1/server/UnlockStatusOfPinLaw", name := "expectedFor", desc := "(J)Lcom/example/atmost1/atmost1/server/UnlockStatus;" } : Jvm.MethodName) method_3_code (2 : Nat) (Option.some (Jvm.ClassFile.FieldType.object "com/example/atmost1/atmost1/server/UnlockStatus")), Jvm.Cond.code ({ cls := "com/example/atmost1/atmost1/server/UnlockStatus", name := "of", desc := "(J)Ljava/util/Optional;" } : Jvm.MethodName) prog_28_method_5_code (7 : Nat) (Option.some (Jvm.ClassFile.FieldType.object "java/util/Optional")), Jvm.Cond.code ({ cls := "java/util/Optional", name := "empty", desc := "()Ljava/util/Optional;" } : Jvm.MethodName) jdk_32_method_1_code (1 : Nat) (Option.some (Jvm.ClassFile.FieldType.object "java/util/Optional")), Jvm.Cond.code ({ cls := "com/example/atmost1/atmost1/server/UnlockStatus", name := "values", desc := "()[Lcom/example/atmost1/atmost1/server/UnlockStatus;" } : Jvm.MethodName) prog_28_method_1_code (0 : Nat) (Option.some (Jvm.ClassFile.FieldType.array (Jvm.ClassFile.FieldType.object "com/example/atmost1/atmost1/server/UnlockStatus"))), Jvm.Cond.code ({ cls := "java/util/Optional", name := "isPresent", desc := "()Z" } : Jvm.MethodName) jdk_32_method_6_code (1 : Nat) (Option.some Jvm.ClassFile.FieldType.boolean), Jvm.Cond.code ({ cls := "java/util/Optional", name := "of", desc := "(Ljava/lang/Object;)Ljava/util/Optional;" } : Jvm.MethodName) jdk_32_method_3_code (1 : Nat) (Option.some (Jvm.ClassFile.FieldType.object "java/util/Optional")), Jvm.Cond.code ({ cls := "java/util/Objects", name := "requireNonNull", desc := "(Ljava/lang/Object;)Ljava/lang/Object;" } : Jvm.MethodName) jdk_31_method_10_code (1 : Nat) (Option.some (Jvm.ClassFile.FieldType.object "java/lang/Object")), Jvm.Cond.code ({ cls := "java/util/Optional", name := "<init>", desc := "(Ljava/lang/Object;)V" } : Jvm.MethodName) jdk_32_method_2_code (2 : Nat) (Option.none : Option Jvm.ClassFile.FieldType), Jvm.Cond.code ({ cls := "java/lang/Object", name := "<init>", desc := "()V" } : Jvm.MethodName) object_method_1_code (1 : Nat) (Option.none : Option Jvm.ClassFile.FieldType), Jvm.Cond.code ({ cls := "java/util/Optional", name := "get", desc := "()Ljava/lang/Object;" } : Jvm.MethodName) jdk_32_method_5_code (1 : Nat) (Option.some (Jvm.ClassFile.FieldType.object "java/lang/Object")), Jvm.Cond.code ({ cls := "com/example/atmost1/atmost1/server/UnlockStatus", name := "code", desc := "()I" } : Jvm.MethodName) prog_28_method_4_code (1 : Nat) (Option.some Jvm.ClassFile.FieldType.int)]
set_option maxRecDepth 65536 in
theorem codes_eq : words1.filter isCode = codes1 := rfl
theorem w_codes : ∀ c ∈ words1.filter isCode, c.before args0 about1 = true := by
  rw [codes_eq]
  intro c hc
  simp only [codes1, List.mem_cons, List.not_mem_nil, or_false] at hc
  rcases hc with rfl | rfl | rfl | rfl | rfl | rfl | rfl | rfl | rfl | rfl | rfl | rfl
  · exact w_c0
  · exact w_c1
  · exact w_c2
  · exact w_c3
  · exact w_c4
  · exact w_c5
  · exact w_c6
  · exact w_c7
  · exact w_c8
  · exact w_c9
  · exact w_c10
  · exact w_c11
set_option maxRecDepth 65536 in
theorem w_t1 : (words1.take 24).all (fun c => isCode c || c.before args0 about1) = true := by decide +kernel
set_option maxRecDepth 65536 in
theorem w_t2 : ((words1.drop 24).take 24).all (fun c => isCode c || c.before args0 about1) = true := by decide +kernel
set_option maxRecDepth 65536 in
theorem w_t3 : (((words1.drop 24).drop 24).take 24).all (fun c => isCode c || c.before args0 about1) = true := by decide +kernel
set_option maxRecDepth 65536 in
theorem w_t4 : (((words1.drop 24).drop 24).drop 24).all (fun c => isCode c || c.before args0 about1) = true := by decide +kernel
theorem w_tables : (allAtoms (Jvm.Cond.code x code maxLocals ret :: tables_1)).before args0 about1 = true := by
  rw [allAtoms_all]
  show words1.all (fun c => c.before args0 about1) = true
  refine all_split ?_ w_codes
  rw [← List.take_append_drop 24 words1, List.all_append, w_t1, ← List.take_append_drop 24 (words1.drop 24), List.all_append, w_t2, ← List.take_append_drop 24 ((words1.drop 24).drop 24), List.all_append, w_t3, w_t4]
  rfl
set_option maxRecDepth 65536 in
theorem w_rest : rest_1_c.before args0 about1 = true := by decide +kernel
set_option maxRecDepth 65536 in
theorem w_case : (Jvm.Cond.and given_1 narrow_1).before args0 about1 = true := by decide +kernel
theorem w_applies : (headSpec (Jvm.Cond.code x code maxLocals ret :: tables_1) room_1).applies x e0.platform about1 = true :=
  (Spec.applies_iff w_frames).mpr ⟨w_running, w_runnable, w_alone, w_named, w_hears, w_ripe, w_room, w_tables⟩
theorem atStart : AtStart classFile x code maxLocals ret World_1 tables_1 room_1 Calls_1 rest_1 Pre_1 launch0 p0 e0 about1 theMethod args0 below0 :=
  ⟨lists_1, trivial, launch0.admits_env _ _ _, launch0.least_env, fairChoices_fair.cas, fairChoices_fair.clock, w_frames, w_args, w_heap, w_applies, trivial, w_rest, w_case⟩
end start1
theorem witness_1 : WitnessClaimed_1 := ⟨start1.p0, start1.e0, start1.about1, start1.theMethod, start1.args0, start1.below0, start1.atStart⟩
end Jvm.Pilot.@@N@@
