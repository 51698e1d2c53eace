import JvmDerived
import JvmDerived.Pilot.@@N@@Statement
import JvmDerived.Pilot.@@N@@Code
set_option linter.unusedVariables false
set_option linter.unusedSimpArgs false
namespace Jvm.RoadKit
open Sem ClassFile Op Lib Jvm.Stand Jvm.Free Jvm.LawKit
section New
variable {p : Program} {l : Launch} {e : Env} {R : Room} {s : State} {m : MethodId} {args : Array Value} {below : List Frame} {meth : Method} {c : Code} {T : State} {locs : List Loc} {cells slots : Nat}
theorem retI (X : Stand p l e R s m args below meth c T locs cells slots) (hx : p.tables.exec = Jvm.exec) {pc : Nat} {Ls : Array Slot} {z : Int32} {rest : List Value} (hret : meth.sig.returnType = some .int) (hd : decode c.code pc = .ok (.ireturn, 1)) {fs : List Frame}
    (hl : ∀ (f : JFrame) (acts : List Action), f.method = m → f.locked = none → f.entered = [] → (doReturn e (T.setTop f) acts (some (.int z))).1 = T.setFrames fs) : Steps p.tables e below (T.setTop (mkF m pc Ls (.int z :: rest))) (T.setFrames fs) := by
  have hm' : T.vm.method? m = some meth := X.method'
  have hn : narrow .int (.int z) = .int z := rfl
  show Steps p.tables e below (T.setTop { method := m, pc := pc, locals := Ls, stack := _ :: rest, locked := none }) _
  jvm_step X.here [X.here.top, hx, hd, hm', hret, hn]
  first | (intro acts; rw [hl _ acts rfl rfl rfl]) | rw [hl _ _ rfl rfl rfl]
  exact Steps.refl _
theorem own_retJ (X : Stand p l e R s m args below meth c T locs cells slots) (hx : p.tables.exec = Jvm.exec) {pc : Nat} {Ls : Array Slot} {z : Int64} {rest : List Value} (hret : meth.sig.returnType = some .long) (hd : decode c.code pc = .ok (.lreturn, 1)) {fs : List Frame}
    (hl : ∀ (f : JFrame) (acts : List Action), f.method = m → f.locked = none → f.entered = [] → (doReturn e (T.setTop f) acts (some (.long z))).1 = T.setFrames fs) : Steps p.tables e below (T.setTop (mkF m pc Ls (.long z :: rest))) (T.setFrames fs) := by
  have hm' : T.vm.method? m = some meth := X.method'
  show Steps p.tables e below (T.setTop { method := m, pc := pc, locals := Ls, stack := _ :: rest, locked := none }) _
  jvm_step X.here [X.here.top, hx, hd, hm', hret, narrow]
  first | (intro acts; rw [hl _ acts rfl rfl rfl]) | rw [hl _ _ rfl rfl rfl]
  exact Steps.refl _
theorem own_retR (X : Stand p l e R s m args below meth c T locs cells slots) (hx : p.tables.exec = Jvm.exec) {pc : Nat} {Ls : Array Slot} {z : Value} (hz : z.isRef = true) {rest : List Value} {t : FieldType} (hret : meth.sig.returnType = some t) (ht : t.isReference = true) (hd : decode c.code pc = .ok (.areturn, 1)) {fs : List Frame}
    (hl : ∀ (f : JFrame) (acts : List Action), f.method = m → f.locked = none → f.entered = [] → (doReturn e (T.setTop f) acts (some z)).1 = T.setFrames fs) : Steps p.tables e below (T.setTop (mkF m pc Ls (z :: rest))) (T.setFrames fs) := by
  have hm' : T.vm.method? m = some meth := X.method'
  show Steps p.tables e below (T.setTop { method := m, pc := pc, locals := Ls, stack := _ :: rest, locked := none }) _
  rcases ref_cases hz with rfl | ⟨a, rfl⟩ <;> cases t <;> first
    | (simp [FieldType.isReference] at ht; done)
    | (jvm_step X.here [X.here.top, hx, hd, hm', hret, Value.isRef, FieldType.isReference]
       first | (intro acts; rw [hl _ acts rfl rfl rfl]) | rw [hl _ _ rfl rfl rfl]
       exact Steps.refl _)
/-- the walk goes on: from this frame the body comes to an end at which P holds -/
def own_G (tb : Tables) (e : Env) (below : List Frame) (T : State) (f : JFrame) (P : State → Outcome → Prop) : Prop := ∃ s₂ o, Steps tb e below (T.setTop f) s₂ ∧ P s₂ o
def own_P (below : List Frame) (s : State) (Q : Option Value → Heap → List Loc → Prop) (ck kk : Nat) : State → Outcome → Prop := fun s₂ o => s₂.status = .running ∧ Ended s₂ below o ∧ ∃ v L, o = .returned v ∧ Q v s₂.heap L ∧ FrameEnd s o s₂ L ck kk
theorem own_go {tb : Tables} {e : Env} {below : List Frame} {T T' : State} {f f' : JFrame} {P : State → Outcome → Prop} (h : ∀ t, Steps tb e below (T'.setTop f') t → Steps tb e below (T.setTop f) t) (g : own_G tb e below T' f' P) : own_G tb e below T f P := by
  obtain ⟨a, o, h1, h2⟩ := g; exact ⟨a, o, h a h1, h2⟩
theorem own_end (X : Stand p l e R s m args below meth c T locs cells slots) (hlocks : meth.locks = false) {v : Option Value} (hv : meth.sig.returnType = none → v = none) {f : JFrame}
    (hret : ∀ fs, (∀ (f : JFrame) (acts : List Action), f.method = m → f.locked = none → f.entered = [] → (doReturn e (T.setTop f) acts v).1 = T.setFrames fs) → Steps p.tables e below (T.setTop f) (T.setFrames fs))
    {Q : Option Value → Heap → List Loc → Prop} {h : Heap} (eT : T.heap = h) (hQ : Q v h locs) {ck kk : Nat} (hc : cells ≤ ck) (hk : slots ≤ kk) : own_G p.tables e below T f (own_P below s Q ck kk) := by
  obtain ⟨fs, hr, hrun, hended, hW, hsame⟩ := X.leave (v := v) hv hlocks
  subst eT
  exact ⟨_, _, hret fs hr, hrun, hended, _, _, rfl, hQ, ⟨_, rfl⟩, hW, hsame.mono hc hk⟩
theorem own_top {tb : Tables} {e : Env} {below : List Frame} {T : State} {f f' : JFrame} {s : State} {Q : Option Value → Heap → List Loc → Prop} {ck kk : Nat} (ef : f = f') (g : own_G tb e below T f' (own_P below s Q ck kk)) :
    ∃ s₂ o, Steps tb e below (T.setTop f) s₂ ∧ s₂.status = .running ∧ Ended s₂ below o ∧ ∃ v L, o = .returned v ∧ Q v s₂.heap L ∧ FrameEnd s o s₂ L ck kk := by
  subst ef; exact g
theorem own_sk {Z : State} {h h' : Heap} {C n d : String} {v : Value} {ws : List Addr} (F : Sta Z h C n d v) (K : Keep h h' ws) (q : ∀ x ∈ ws, ∀ c : Cell, h[x]? = some c → c.vm.isStatics = false) : Sta Z h' C n d v := by
  obtain ⟨cf, i, k, f, st, cell, h1, h2, h3, h4, h5, h6, h7⟩ := F
  exact ⟨cf, i, k, f, st, cell, h1, h2, h3, h4, K.2.1 st cell h5 (fun hm => by have := q st hm cell h5; rw [h6] at this; cases this), h6, h7⟩
theorem own_ak {Z : State} {h h' : Heap} {a : Addr} {c : Cell} {ty : FieldType} (A : Arr Z h a c ty) (K : Keep h h' []) : Arr Z h' a c ty := ⟨K.2.1 a c A.1 List.not_mem_nil, A.2⟩
theorem own_akn {Z : State} {h h' : Heap} {a : Addr} {c : Cell} {ty : FieldType} {ws : List Addr} (A : Arr Z h a c ty) (K : Keep h h' ws) (q : a ∉ ws) : Arr Z h' a c ty := ⟨K.2.1 a c A.1 q, A.2⟩
theorem own_plv {Z : State} {h : Heap} {a : Addr} {k : ClassId} {ty : FieldType} {n : Int32} {vs : List Value} {d : Value} (A : Arv Z h a k ty n vs d) : ∀ c : Cell, h[a]? = some c → c.vm.isStatics = false := fun c hc => by
  obtain ⟨cl, A, -⟩ := A; have := A.1; rw [this] at hc; cases hc; exact A.plain
theorem own_pl {Z : State} {h : Heap} {a : Addr} {C : String} (E : Exa Z h a C) : ∀ c : Cell, h[a]? = some c → c.vm.isStatics = false := fun c hc => by
  obtain ⟨cell, k, h1, _, _, h4, _⟩ := E; rw [h1] at hc; cases hc; exact h4
theorem own_pl1 {h : Heap} {a : Addr} (q : ∀ c : Cell, h[a]? = some c → c.vm.isStatics = false) : ∀ x ∈ [a], ∀ c : Cell, h[x]? = some c → c.vm.isStatics = false := fun x hx => by
  cases List.mem_singleton.mp hx; exact q
end New
end Jvm.RoadKit
namespace Jvm.Pilot.@@N@@
open Jvm Jvm.ClassFile Sem Op Lib Jvm.Free Jvm.Stand Jvm.LawKit Jvm.RoadKit Bundle Jvm.Pilot.@@N@@.Jvm.D
theorem own_pd0 : parseMethodDescriptor "()B" = some ⟨[], some .byte⟩ := by decide +kernel
theorem own_pd1 : parseMethodDescriptor "(IILjava/util/function/BiFunction;)I" = some ⟨[.int, .int, (.object "java/util/function/BiFunction")], some .int⟩ := by decide +kernel
theorem own_pd2 : parseMethodDescriptor "(II)V" = some ⟨[.int, .int], none⟩ := by decide +kernel
theorem own_pd3 : parseMethodDescriptor "()Z" = some ⟨[], some .boolean⟩ := by decide +kernel
theorem own_pd4 : parseMethodDescriptor "([BI)C" = some ⟨[(.array .byte), .int], some .char⟩ := by decide +kernel
theorem own_pd5 : parseMethodDescriptor "()Ljava/lang/String;" = some ⟨[], some (.object "java/lang/String")⟩ := by decide +kernel
theorem own_pd6 : parseMethodDescriptor "()I" = some ⟨[], some .int⟩ := by decide +kernel
theorem own_pd7 : parseMethodDescriptor "(I)C" = some ⟨[.int], some .char⟩ := by decide +kernel
theorem own_pd8 : parseMethodDescriptor "(I)Lcom/example/replan/replan/model/Operator;" = some ⟨[.int], some (.object "com/example/replan/replan/model/Operator")⟩ := by decide +kernel
theorem own_pn0 : plainName "java/lang/String" = true := by first | (simp [plainName, overriddenIn]; done) | decide +kernel
theorem own_pn1 : plainName "jdk/internal/util/Preconditions" = true := by first | (simp [plainName, overriddenIn]; done) | decide +kernel
theorem own_pn2 : plainName "java/lang/StringLatin1" = true := by first | (simp [plainName, overriddenIn]; done) | decide +kernel
theorem own_pn3 : plainName "com/example/replan/replan/model/OperatorIsLowerBoundPinLaw" = true := by first | (simp [plainName, overriddenIn]; done) | decide +kernel
theorem own_pn4 : plainName "com/example/replan/replan/model/Operator" = true := by first | (simp [plainName, overriddenIn]; done) | decide +kernel

theorem own_field {args : Array Value} {s : State} {t : Term} {a : Addr} {K n d : String} {v : Int32} (ht : t.eval args s none [] s = some (.ref a)) (h : (Jvm.Cond.eq (.field t K n d) (.int v)).value args s none s [] = some true) : s.fieldOf? a K n d = some (.int v) := by
  have e1 : (Term.field t K n d).eval args s none [] s = s.fieldOf? a K n d := fld_at ht
  have e2 : (Term.int v).eval args s none [] s = some (.int v) := rfl
  generalize hx : s.fieldOf? a K n d = x at e1
  simp only [Jvm.Cond.value, e1, e2] at h
  split at h <;> simp_all
theorem own_apart {s : State} {a b : Addr} {K n d : String} {v w : Int32} (ha : s.fieldOf? a K n d = some (.int v)) (hb : s.fieldOf? b K n d = some (.int w)) (hn : v ≠ w) : ¬ (Value.ref a = Value.ref b) := fun q => by
  cases q; rw [ha] at hb; cases hb; exact hn rfl


theorem own_len {args : Array Value} {s : State} {t : Term} {a : Addr} {cl : Cell} {n : Int32} (ht : t.eval args s none [] s = some (.ref a)) (ha : s.arrayAt? a = some cl) (h : (Jvm.Cond.eq (.length t) (.int n)).value args s none s [] = some true) : cl.slots.size < 2 ^ 31 ∧ cl.slots.size.toInt32 = n := by
  have e2 : (Term.int n).eval args s none [] s = some (.int n) := rfl
  by_cases q : cl.slots.size < 2 ^ 31
  · have e1 := len_f (args := args) (first := s) (o := none) (idx := []) ht ha q
    refine ⟨q, ?_⟩
    simpa [Jvm.Cond.value, e1, e2] using h
  · exfalso
    have e1 : (Term.length t).eval args s none [] s = none := by simp [Term.eval, ht, ha, q]
    simp [Jvm.Cond.value, e1] at h
theorem own_eqi {args : Array Value} {s : State} {idx : List Nat} {t : Term} {v : Int32} {x : Option Value} (e1 : t.eval args s none idx s = x) (h : (Jvm.Cond.eq t (.int v)).value args s none s idx = some true) : x = some (.int v) := by
  have e2 : (Term.int v).eval args s none idx s = some (.int v) := rfl
  simp only [Jvm.Cond.value, e1, e2] at h
  split at h <;> simp_all
theorem own_elem {args : Array Value} {s : State} {t : Term} {a : Addr} {cl : Cell} {j v : Int32} (ht : t.eval args s none [] s = some (.ref a)) (ha : s.arrayAt? a = some cl) (hj : ¬ j < 0) (h : (Jvm.Cond.eq (.elem t (.int j)) (.int v)).value args s none s [] = some true) : cl.slots[j.toNatClampNeg]? = some (.int v) :=
  own_eqi (elem_f (a := Term.int j) ht rfl ha hj) h
theorem own_back {k : Nat} (hk : k < 2 ^ 31) : k.toInt32.toNatClampNeg = k ∧ ¬ k.toInt32 < 0 := by
  have q := len_toInt hk
  refine ⟨by simp only [Int32.toNatClampNeg, q]; omega, ?_⟩
  rw [Int32.lt_iff_toInt_lt, q]; have : (0 : Int32).toInt = 0 := rfl
  omega
theorem own_elemI {args : Array Value} {s : State} {t : Term} {a : Addr} {cl : Cell} {v : Int32} {k : Nat} (ht : t.eval args s none [k] s = some (.ref a)) (ha : s.arrayAt? a = some cl) (hk : k < 2 ^ 31) (h : (Jvm.Cond.eq (.elem t (.index 0)) (.int v)).value args s none s [k] = some true) : cl.slots[k]? = some (.int v) := by
  have q := own_back hk
  have r := own_eqi (elem_f (a := Term.index 0) ht (rfl : (Term.index 0).eval args s none [k] s = some (.int k.toInt32)) ha q.2) h
  rwa [q.1] at r
theorem own_all3 {args : Array Value} {s : State} {t : Term} {a : Addr} {cl : Cell} {lo hi v : Int32} {k : Nat} (ht : ∀ idx, t.eval args s none idx s = some (.ref a)) (ha : s.arrayAt? a = some cl) (hs : cl.slots.size < 2 ^ 31)
    (h : (Jvm.Cond.all t (.or (.lt (.index 0) (.int lo)) (.or (.le (.int hi) (.index 0)) (.eq (.elem t (.index 0)) (.int v))))).value args s none s [] = some true)
    (hk : k < cl.slots.size) (h1 : ¬ k.toInt32 < lo) (h2 : ¬ hi ≤ k.toInt32) : cl.slots[k]? = some (.int v) := by
  have q := Cond.all_elim (ht []) ha h k hk
  have i0 : (Term.index 0).eval args s none [k] s = some (.int k.toInt32) := rfl
  have l0 : (Term.int lo).eval args s none [k] s = some (.int lo) := rfl
  have l1 : (Term.int hi).eval args s none [k] s = some (.int hi) := rfl
  rw [Cond.or_of_right (nay (Cond.lt_ints i0 l0) h1), Cond.or_of_right (nay (Cond.le_ints l1 i0) h2)] at q
  exact own_elemI (ht [k]) ha (by omega) q
theorem own_all2 {args : Array Value} {s : State} {t : Term} {a : Addr} {cl : Cell} {hi v : Int32} {k : Nat} (ht : ∀ idx, t.eval args s none idx s = some (.ref a)) (ha : s.arrayAt? a = some cl) (hs : cl.slots.size < 2 ^ 31)
    (h : (Jvm.Cond.all t (.or (.le (.int hi) (.index 0)) (.eq (.elem t (.index 0)) (.int v)))).value args s none s [] = some true)
    (hk : k < cl.slots.size) (h2 : ¬ hi ≤ k.toInt32) : cl.slots[k]? = some (.int v) := by
  have q := Cond.all_elim (ht []) ha h k hk
  have i0 : (Term.index 0).eval args s none [k] s = some (.int k.toInt32) := rfl
  have l1 : (Term.int hi).eval args s none [k] s = some (.int hi) := rfl
  rw [Cond.or_of_right (nay (Cond.le_ints l1 i0) h2)] at q
  exact own_elemI (ht [k]) ha (by omega) q
theorem own_nlt {k : Nat} {n : Int32} (hk : k < 2 ^ 31) (h : n.toInt ≤ (k : Int)) : ¬ k.toInt32 < n := by
  rw [Int32.lt_iff_toInt_lt, len_toInt hk]; omega
theorem own_nle {k : Nat} {n : Int32} (hk : k < 2 ^ 31) (h : (k : Int) < n.toInt) : ¬ n ≤ k.toInt32 := by
  rw [Int32.le_iff_toInt_le, len_toInt hk]; omega


theorem own_shr0 (n : Int32) : n >>> ((0 : Int32) &&& 31) = n := by
  have : ((0 : Int32) &&& 31) = 0 := rfl
  rw [this]; simp

theorem d5_0 : decode jdk_42_method_152_code 0 = .ok (.getstatic 38, 3) := by decide +kernel
theorem d5_3 : decode jdk_42_method_152_code 3 = .ok (.ifCond .eq 10, 3) := by decide +kernel
theorem d5_6 : decode jdk_42_method_152_code 6 = .ok (.aload_n 0, 1) := by decide +kernel
theorem d5_7 : decode jdk_42_method_152_code 7 = .ok (.getfield 15, 3) := by decide +kernel
theorem d5_10 : decode jdk_42_method_152_code 10 = .ok (.goto 4, 3) := by decide +kernel
theorem d5_14 : decode jdk_42_method_152_code 14 = .ok (.ireturn, 1) := by decide +kernel
theorem ef_5 (m : MethodId) (a1 : Addr) : entryFrame m #[(.ref a1)] 1 = mkF m 0 #[.val (.ref a1)] [] := by first | (simp [entryFrame, mkF, argsToLocals, Value.category]; done) | rfl
def Q5 (Z : State) (a1 : Addr) (cs : Int32) (h0 : Heap) (n0 : Nat) (v : Option Value) (h : Heap) (L : List Loc) : Prop := v = some (.int (0 : Int32)) ∧ Fr n0 L ∧ h = h0
set_option maxRecDepth 65536 in
set_option maxHeartbeats 40000000 in
theorem rm5 (l : Launch) (Z : State) (a0 : Array Value) (hw : ∀ d ∈ tables_1, d.before a0 Z = true) (ws : List Jvm.Cond) (a1 : Addr) (cs : Int32) (h0 : Heap) (n0 : Nat) (Z0 : n0 ≤ h0.size) (S_C : Sta Z h0 "java/lang/String" "COMPACT_STRINGS" "Z" (.int cs)) (hcs : ¬ cs = 0) (Fc : Fld Z h0 a1 "java/lang/String" "coder" "B" (.int (0 : Int32))) :
    MetFree l (⟨"java/lang/String", "coder", "()B"⟩ : MethodName) (head1 (Jvm.Cond.code (⟨"java/lang/String", "coder", "()B"⟩ : MethodName) jdk_42_method_152_code 1 (some .byte) :: ws) ({ frames := 0, cells := 0, slots := 0, locals := 0 } : Room)) (fun a U => a = #[(.ref a1)] ∧ Z.Warmed39 U.vm ∧ U.heap = h0) (fun _ _ _ _ _ => True) (fun _ U o U' => ∃ v L, o = .returned v ∧ Q5 Z a1 cs h0 n0 v U'.heap L ∧ FrameEnd U o U' L ({ frames := 0, cells := 0, slots := 0, locals := 0 } : Room).cells ({ frames := 0, cells := 0, slots := 0, locals := 0 } : Room).slots) := by
  refine MetFree.of_bodySF (plainFor_of_name own_pn0) hisR ?_
  intro p e s m args below meth c s₁ Bd hml0 hP hK
  obtain ⟨rfl, hZ, hh⟩ := hP
  have hx := Bd.exec
  have hby := Bd.bytes
  have hml : c.maxLocals = 1 := hml0
  have hown : s.vm.findClass "java/lang/String" = some m.cls := findClass_of_methodNamed Bd.named
  have hnm := (name_of_methodNamed Bd.named Bd.method).1
  have X0 : Stand p l e ({ frames := 0, cells := 0, slots := 0, locals := 0 } : Room) s m #[(.ref a1)] below meth c s₁ [] 0 0 := Stand.of_body Bd
  have e0 : s₁.heap = h0 := by rw [← hh, Bd.state]; rfl
  have N0 := Fr.nil n0
  refine own_top (Q := Q5 Z a1 cs h0 n0) (ef_5 m a1) ?_
  show own_G p.tables e below s₁ (mkF m 0 #[.val (.ref a1)] []) _
  obtain ⟨T1, X1, e1, st1⟩ := getS2 X0 hx hZ hown (host := "") (Or.inl (hw _ (List.mem_of_getElem? (i := 37) rfl))) Via.refl e0 S_C (g := (mkF m 0 #[.val (.ref a1)] [])) rfl (hb hby d5_0)
  refine own_go st1 ?_
  show own_G p.tables e below T1 (mkF m 3 #[.val (.ref a1)] [(.int cs)]) _
  refine own_go (fun t_ k_ => XS.ifNo X1.here hx rfl (hb hby d5_3) rfl ((if0 _ _).trans (feq hcs).1) k_) ?_
  show own_G p.tables e below T1 (mkF m 6 #[.val (.ref a1)] []) _
  refine own_go (fun t_ k_ => XS.aloadN X1.here hx rfl (hb hby d5_6) rfl rfl k_) ?_
  show own_G p.tables e below T1 (mkF m 7 #[.val (.ref a1)] [(.ref a1)]) _
  obtain ⟨T2, X2, e2, st2⟩ := getF X1 hx hZ hown (host := "") (Or.inl (hw _ (List.mem_of_getElem? (i := 38) rfl))) Via.refl e1 Fc (g := (mkF m 7 #[.val (.ref a1)] [(.ref a1)])) rfl rfl (hb hby d5_7)
  refine own_go st2 ?_
  show own_G p.tables e below T2 (mkF m 10 #[.val (.ref a1)] [(.int (0 : Int32))]) _
  refine own_go (fun t_ k_ => XS.goto X2.here hx rfl (pc0 := 10) (pc' := 14) rfl (hb hby d5_10) (by decide) (by decide) k_) ?_
  show own_G p.tables e below T2 (mkF m 14 #[.val (.ref a1)] [(.int (0 : Int32))]) _
  exact own_end (v := some (.int (0 : Int32))) X2 Bd.notSynchronized (fun h => by rw [Bd.returns] at h; cases h) (fun fs hr => retN X2 hx (z := (0 : Int32)) (t := .byte) Bd.returns (by simp) (hb hby d5_14) hr) e2 ⟨rfl, N0, rfl⟩ (by decide) (by decide)
theorem d7_0 : decode jdk_42_method_154_code 0 = .ok (.getstatic 38, 3) := by decide +kernel
theorem d7_3 : decode jdk_42_method_154_code 3 = .ok (.ifCond .eq 14, 3) := by decide +kernel
theorem d7_6 : decode jdk_42_method_154_code 6 = .ok (.aload_n 0, 1) := by decide +kernel
theorem d7_7 : decode jdk_42_method_154_code 7 = .ok (.getfield 15, 3) := by decide +kernel
theorem d7_10 : decode jdk_42_method_154_code 10 = .ok (.ifCond .ne 7, 3) := by decide +kernel
theorem d7_13 : decode jdk_42_method_154_code 13 = .ok (.iconst 1, 1) := by decide +kernel
theorem d7_14 : decode jdk_42_method_154_code 14 = .ok (.goto 4, 3) := by decide +kernel
theorem d7_18 : decode jdk_42_method_154_code 18 = .ok (.ireturn, 1) := by decide +kernel
theorem ef_7 (m : MethodId) (a1 : Addr) : entryFrame m #[(.ref a1)] 1 = mkF m 0 #[.val (.ref a1)] [] := by first | (simp [entryFrame, mkF, argsToLocals, Value.category]; done) | rfl
def Q7 (Z : State) (a1 : Addr) (cs : Int32) (h0 : Heap) (n0 : Nat) (v : Option Value) (h : Heap) (L : List Loc) : Prop := v = some (.int (1 : Int32)) ∧ Fr n0 L ∧ h = h0
set_option maxRecDepth 65536 in
set_option maxHeartbeats 40000000 in
theorem rm7 (l : Launch) (Z : State) (a0 : Array Value) (hw : ∀ d ∈ tables_1, d.before a0 Z = true) (ws : List Jvm.Cond) (a1 : Addr) (cs : Int32) (h0 : Heap) (n0 : Nat) (Z0 : n0 ≤ h0.size) (S_C : Sta Z h0 "java/lang/String" "COMPACT_STRINGS" "Z" (.int cs)) (hcs : ¬ cs = 0) (Fc : Fld Z h0 a1 "java/lang/String" "coder" "B" (.int (0 : Int32))) :
    MetFree l (⟨"java/lang/String", "isLatin1", "()Z"⟩ : MethodName) (head1 (Jvm.Cond.code (⟨"java/lang/String", "isLatin1", "()Z"⟩ : MethodName) jdk_42_method_154_code 1 (some .boolean) :: ws) ({ frames := 0, cells := 0, slots := 0, locals := 0 } : Room)) (fun a U => a = #[(.ref a1)] ∧ Z.Warmed39 U.vm ∧ U.heap = h0) (fun _ _ _ _ _ => True) (fun _ U o U' => ∃ v L, o = .returned v ∧ Q7 Z a1 cs h0 n0 v U'.heap L ∧ FrameEnd U o U' L ({ frames := 0, cells := 0, slots := 0, locals := 0 } : Room).cells ({ frames := 0, cells := 0, slots := 0, locals := 0 } : Room).slots) := by
  refine MetFree.of_bodySF (plainFor_of_name own_pn0) hisR ?_
  intro p e s m args below meth c s₁ Bd hml0 hP hK
  obtain ⟨rfl, hZ, hh⟩ := hP
  have hx := Bd.exec
  have hby := Bd.bytes
  have hml : c.maxLocals = 1 := hml0
  have hown : s.vm.findClass "java/lang/String" = some m.cls := findClass_of_methodNamed Bd.named
  have hnm := (name_of_methodNamed Bd.named Bd.method).1
  have X0 : Stand p l e ({ frames := 0, cells := 0, slots := 0, locals := 0 } : Room) s m #[(.ref a1)] below meth c s₁ [] 0 0 := Stand.of_body Bd
  have e0 : s₁.heap = h0 := by rw [← hh, Bd.state]; rfl
  have N0 := Fr.nil n0
  refine own_top (Q := Q7 Z a1 cs h0 n0) (ef_7 m a1) ?_
  show own_G p.tables e below s₁ (mkF m 0 #[.val (.ref a1)] []) _
  obtain ⟨T1, X1, e1, st1⟩ := getS2 X0 hx hZ hown (host := "") (Or.inl (hw _ (List.mem_of_getElem? (i := 37) rfl))) Via.refl e0 S_C (g := (mkF m 0 #[.val (.ref a1)] [])) rfl (hb hby d7_0)
  refine own_go st1 ?_
  show own_G p.tables e below T1 (mkF m 3 #[.val (.ref a1)] [(.int cs)]) _
  refine own_go (fun t_ k_ => XS.ifNo X1.here hx rfl (hb hby d7_3) rfl ((if0 _ _).trans (feq hcs).1) k_) ?_
  show own_G p.tables e below T1 (mkF m 6 #[.val (.ref a1)] []) _
  refine own_go (fun t_ k_ => XS.aloadN X1.here hx rfl (hb hby d7_6) rfl rfl k_) ?_
  show own_G p.tables e below T1 (mkF m 7 #[.val (.ref a1)] [(.ref a1)]) _
  obtain ⟨T2, X2, e2, st2⟩ := getF X1 hx hZ hown (host := "") (Or.inl (hw _ (List.mem_of_getElem? (i := 38) rfl))) Via.refl e1 Fc (g := (mkF m 7 #[.val (.ref a1)] [(.ref a1)])) rfl rfl (hb hby d7_7)
  refine own_go st2 ?_
  show own_G p.tables e below T2 (mkF m 10 #[.val (.ref a1)] [(.int (0 : Int32))]) _
  refine own_go (fun t_ k_ => XS.ifNo X2.here hx rfl (hb hby d7_10) rfl ((if0 _ _).trans (teq (by decide : ((0 : Int32) = (0 : Int32)))).2) k_) ?_
  show own_G p.tables e below T2 (mkF m 13 #[.val (.ref a1)] []) _
  refine own_go (fun t_ k_ => XS.iconst X2.here hx rfl (hb hby d7_13) k_) ?_
  show own_G p.tables e below T2 (mkF m 14 #[.val (.ref a1)] [(.int (1 : Int32))]) _
  refine own_go (fun t_ k_ => XS.goto X2.here hx rfl (pc0 := 14) (pc' := 18) rfl (hb hby d7_14) (by decide) (by decide) k_) ?_
  show own_G p.tables e below T2 (mkF m 18 #[.val (.ref a1)] [(.int (1 : Int32))]) _
  exact own_end (v := some (.int (1 : Int32))) X2 Bd.notSynchronized (fun h => by rw [Bd.returns] at h; cases h) (fun fs hr => retN X2 hx (z := (1 : Int32)) (t := .boolean) Bd.returns (by simp) (hb hby d7_18) hr) e2 ⟨rfl, N0, rfl⟩ (by decide) (by decide)
theorem d4_0 : decode jdk_42_method_54_code 0 = .ok (.aload_n 0, 1) := by decide +kernel
theorem d4_1 : decode jdk_42_method_54_code 1 = .ok (.getfield 9, 3) := by decide +kernel
theorem d4_4 : decode jdk_42_method_54_code 4 = .ok (.arraylength, 1) := by decide +kernel
theorem d4_5 : decode jdk_42_method_54_code 5 = .ok (.aload_n 0, 1) := by decide +kernel
theorem d4_6 : decode jdk_42_method_54_code 6 = .ok (.invokevirtual 335, 3) := by decide +kernel
theorem d4_9 : decode jdk_42_method_54_code 9 = .ok (.ishr, 1) := by decide +kernel
theorem d4_10 : decode jdk_42_method_54_code 10 = .ok (.ireturn, 1) := by decide +kernel
theorem ef_4 (m : MethodId) (a1 : Addr) : entryFrame m #[(.ref a1)] 1 = mkF m 0 #[.val (.ref a1)] [] := by first | (simp [entryFrame, mkF, argsToLocals, Value.category]; done) | rfl
def Q4 (Z : State) (a1 : Addr) (cs : Int32) (t : Addr) (cl : Cell) (z : Int32) (h0 : Heap) (n0 : Nat) (v : Option Value) (h : Heap) (L : List Loc) : Prop := v = some (.int z) ∧ Fr n0 L ∧ h = h0
set_option maxRecDepth 65536 in
set_option maxHeartbeats 40000000 in
theorem rm4 (l : Launch) (Z : State) (a0 : Array Value) (hw : ∀ d ∈ tables_1, d.before a0 Z = true) (ws : List Jvm.Cond) (a1 : Addr) (cs : Int32) (t : Addr) (cl : Cell) (z : Int32) (h0 : Heap) (n0 : Nat) (Z0 : n0 ≤ h0.size) (S_C : Sta Z h0 "java/lang/String" "COMPACT_STRINGS" "Z" (.int cs)) (hcs : ¬ cs = 0) (Es : Exa Z h0 a1 "java/lang/String") (Fc : Fld Z h0 a1 "java/lang/String" "coder" "B" (.int (0 : Int32))) (Fv : Fld Z h0 a1 "java/lang/String" "value" "[B" (.ref t)) (Ar : Arr Z h0 t cl .byte) (Sz : cl.slots.size = z.toNatClampNeg) (Mz : ¬ z < 0) :
    MetFree l (⟨"java/lang/String", "length", "()I"⟩ : MethodName) (head1 (Jvm.Cond.code (⟨"java/lang/String", "length", "()I"⟩ : MethodName) jdk_42_method_54_code 1 (some .int) :: ws) ({ frames := 1, cells := 0, slots := 0, locals := 13 } : Room)) (fun a U => a = #[(.ref a1)] ∧ Z.Warmed39 U.vm ∧ U.heap = h0) (fun _ _ _ _ _ => True) (fun _ U o U' => ∃ v L, o = .returned v ∧ Q4 Z a1 cs t cl z h0 n0 v U'.heap L ∧ FrameEnd U o U' L ({ frames := 1, cells := 0, slots := 0, locals := 13 } : Room).cells ({ frames := 1, cells := 0, slots := 0, locals := 13 } : Room).slots) := by
  refine MetFree.of_bodySF (plainFor_of_name own_pn0) hisR ?_
  intro p e s m args below meth c s₁ Bd hml0 hP hK
  obtain ⟨rfl, hZ, hh⟩ := hP
  have hx := Bd.exec
  have hby := Bd.bytes
  have hml : c.maxLocals = 1 := hml0
  have hown : s.vm.findClass "java/lang/String" = some m.cls := findClass_of_methodNamed Bd.named
  have hnm := (name_of_methodNamed Bd.named Bd.method).1
  have X0 : Stand p l e ({ frames := 1, cells := 0, slots := 0, locals := 13 } : Room) s m #[(.ref a1)] below meth c s₁ [] 0 0 := Stand.of_body Bd
  have e0 : s₁.heap = h0 := by rw [← hh, Bd.state]; rfl
  have N0 := Fr.nil n0
  refine own_top (Q := Q4 Z a1 cs t cl z h0 n0) (ef_4 m a1) ?_
  show own_G p.tables e below s₁ (mkF m 0 #[.val (.ref a1)] []) _
  refine own_go (fun t_ k_ => XS.aloadN X0.here hx rfl (hb hby d4_0) rfl rfl k_) ?_
  show own_G p.tables e below s₁ (mkF m 1 #[.val (.ref a1)] [(.ref a1)]) _
  obtain ⟨T1, X1, e1, st1⟩ := getF X0 hx hZ hown (host := "") (Or.inl (hw _ (List.mem_of_getElem? (i := 30) rfl))) Via.refl e0 Fv (g := (mkF m 1 #[.val (.ref a1)] [(.ref a1)])) rfl rfl (hb hby d4_1)
  refine own_go st1 ?_
  show own_G p.tables e below T1 (mkF m 4 #[.val (.ref a1)] [(.ref t)]) _
  refine own_go (fun t_ k_ => X1.arraylength hx (by rw [e1]; exact Ar.1) (State.isArrayOf_alike hZ.alike Ar.2.1) (g := (mkF m 4 #[.val (.ref a1)] [(.ref t)])) rfl rfl (hb hby d4_4) _ k_) ?_
  show own_G p.tables e below T1 (mkF m 5 #[.val (.ref a1)] [(.int cl.slots.size.toInt32)]) _
  rw [len_of Sz Mz]
  show own_G p.tables e below T1 (mkF m 5 #[.val (.ref a1)] [(.int z)]) _
  refine own_go (fun t_ k_ => XS.aloadN X1.here hx rfl (hb hby d4_5) rfl rfl k_) ?_
  show own_G p.tables e below T1 (mkF m 6 #[.val (.ref a1)] [(.ref a1), (.int z)]) _
  obtain ⟨cq2, kq2, q2a, q2b, q2c⟩ := isOf hZ e1 Es
  obtain ⟨_, _, ⟨T2, L2, k2, n2⟩, -, X2, ⟨Lc2, hQ2, l2, y2, z2⟩, st2⟩ := X1.virtualBack hx (y := (⟨"java/lang/String", "coder", "()B"⟩ : MethodName)) (z := (⟨"java/lang/String", "coder", "()B"⟩ : MethodName)) hown (mvT hZ (hw _ (List.mem_of_getElem? (i := 32) rfl))) (mvT hZ (hw _ (List.mem_of_getElem? (i := 33) rfl))) (notFace_of_selects (args := #[]) (mvT hZ (hw _ (List.mem_of_getElem? (i := 35) rfl)))) (mvT hZ (hw _ (List.mem_of_getElem? (i := 35) rfl))) (mvT hZ (hw _ (List.mem_of_getElem? (i := 34) rfl))) (by decide) (backOf (W := 1) (rm5 l Z a0 hw [] a1 cs h0 n0 Z0 S_C hcs Fc) hZ (hw _ (List.mem_of_getElem? (i := 36) rfl)) (hw _ (List.mem_of_getElem? (i := 28) rfl)) (by decide) (by decide)) q2a q2c (g := (mkF m 6 #[.val (.ref a1)] [(.ref a1), (.int z)])) rfl (by rw [hml]; rfl) (Steps.refl _) (argsL := []) (rest := [(.int z)]) (lenOf own_pd0 rfl) rfl (by show 2 * 0 + _ ≤ _; exact Nat.le_of_eq rfl) (hb hby d4_6) (fun _ _ => ⟨rfl, e1, (by decide : 0 + 0 ≤ _), (by decide : 0 + 0 ≤ _)⟩)
  dsimp only [Pt.U, Pt.locs, Pt.cells, Pt.slots] at X2 l2 y2 z2 st2 hQ2
  subst l2 y2 z2
  obtain ⟨rfl, N2q, e2⟩ := hQ2
  have N2 := Fr.app N0 N2q
  refine own_go (fun t_ k_ => st2.trans k_) ?_
  show own_G p.tables e below T2 (mkF m 9 #[.val (.ref a1)] [(.int (0 : Int32)), (.int z)]) _
  refine own_go (fun t_ k_ => XS.ishr X2.here hx rfl (hb hby d4_9) rfl k_) ?_
  show own_G p.tables e below T2 (mkF m 10 #[.val (.ref a1)] [(.int (z >>> ((0 : Int32) &&& 31)))]) _
  exact own_end (v := some (.int (z >>> ((0 : Int32) &&& 31)))) X2 Bd.notSynchronized (fun h => by rw [Bd.returns] at h; cases h) (fun fs hr => retI X2 hx Bd.returns (hb hby d4_10) hr) e2 ⟨congrArg (fun z => some (Value.int z)) (own_shr0 z), N2, rfl⟩ (by decide) (by decide)
theorem d10_0 : decode jdk_41_method_11_code 0 = .ok (.iload_n 0, 1) := by decide +kernel
theorem d10_1 : decode jdk_41_method_11_code 1 = .ok (.ifCond .lt 8, 3) := by decide +kernel
theorem d10_4 : decode jdk_41_method_11_code 4 = .ok (.iload_n 0, 1) := by decide +kernel
theorem d10_5 : decode jdk_41_method_11_code 5 = .ok (.iload_n 1, 1) := by decide +kernel
theorem d10_6 : decode jdk_41_method_11_code 6 = .ok (.if_icmp .lt 10, 3) := by decide +kernel
theorem d10_16 : decode jdk_41_method_11_code 16 = .ok (.iload_n 0, 1) := by decide +kernel
theorem d10_17 : decode jdk_41_method_11_code 17 = .ok (.ireturn, 1) := by decide +kernel
theorem ef_10 (m : MethodId) (p1 : Int32) (p2 : Int32) (rf : Value) (hr_rf : rf.isRef = true) : entryFrame m #[(.int p1), (.int p2), rf] 3 = mkF m 0 #[.val (.int p1), .val (.int p2), .val rf] [] := by rcases ref_cases hr_rf with rfl | ⟨_, rfl⟩ <;> first | (simp [entryFrame, mkF, argsToLocals, Value.category]; done) | rfl
def Q10 (Z : State) (p1 : Int32) (p2 : Int32) (rf : Value)  (h0 : Heap) (n0 : Nat) (v : Option Value) (h : Heap) (L : List Loc) : Prop := v = some (.int p1) ∧ Fr n0 L ∧ h = h0
set_option maxRecDepth 65536 in
set_option maxHeartbeats 40000000 in
theorem rm10 (l : Launch) (Z : State) (a0 : Array Value) (hw : ∀ d ∈ tables_1, d.before a0 Z = true) (ws : List Jvm.Cond) (p1 : Int32) (p2 : Int32) (rf : Value)  (h0 : Heap) (n0 : Nat) (Z0 : n0 ≤ h0.size) (hrf : rf.isRef = true) (h1 : ¬ p1 < (0 : Int32)) (h2 : p1 < p2) :
    MetFree l (⟨"jdk/internal/util/Preconditions", "checkIndex", "(IILjava/util/function/BiFunction;)I"⟩ : MethodName) (head1 (Jvm.Cond.code (⟨"jdk/internal/util/Preconditions", "checkIndex", "(IILjava/util/function/BiFunction;)I"⟩ : MethodName) jdk_41_method_11_code 3 (some .int) :: ws) ({ frames := 0, cells := 0, slots := 0, locals := 0 } : Room)) (fun a U => a = #[(.int p1), (.int p2), rf] ∧ Z.Warmed39 U.vm ∧ U.heap = h0) (fun _ _ _ _ _ => True) (fun _ U o U' => ∃ v L, o = .returned v ∧ Q10 Z p1 p2 rf h0 n0 v U'.heap L ∧ FrameEnd U o U' L ({ frames := 0, cells := 0, slots := 0, locals := 0 } : Room).cells ({ frames := 0, cells := 0, slots := 0, locals := 0 } : Room).slots) := by
  refine MetFree.of_bodySF (plainFor_of_name own_pn1) hisR ?_
  intro p e s m args below meth c s₁ Bd hml0 hP hK
  obtain ⟨rfl, hZ, hh⟩ := hP
  have hx := Bd.exec
  have hby := Bd.bytes
  have hml : c.maxLocals = 3 := hml0
  have hown : s.vm.findClass "jdk/internal/util/Preconditions" = some m.cls := findClass_of_methodNamed Bd.named
  have hnm := (name_of_methodNamed Bd.named Bd.method).1
  have X0 : Stand p l e ({ frames := 0, cells := 0, slots := 0, locals := 0 } : Room) s m #[(.int p1), (.int p2), rf] below meth c s₁ [] 0 0 := Stand.of_body Bd
  have e0 : s₁.heap = h0 := by rw [← hh, Bd.state]; rfl
  have N0 := Fr.nil n0
  refine own_top (Q := Q10 Z p1 p2 rf h0 n0) (ef_10 m p1 p2 rf hrf) ?_
  show own_G p.tables e below s₁ (mkF m 0 #[.val (.int p1), .val (.int p2), .val rf] []) _
  refine own_go (fun t_ k_ => XS.iloadN X0.here hx rfl (hb hby d10_0) rfl k_) ?_
  show own_G p.tables e below s₁ (mkF m 1 #[.val (.int p1), .val (.int p2), .val rf] [(.int p1)]) _
  refine own_go (fun t_ k_ => XS.ifNo X0.here hx rfl (hb hby d10_1) rfl ((if0 _ _).trans (flt h1).1) k_) ?_
  show own_G p.tables e below s₁ (mkF m 4 #[.val (.int p1), .val (.int p2), .val rf] []) _
  refine own_go (fun t_ k_ => XS.iloadN X0.here hx rfl (hb hby d10_4) rfl k_) ?_
  show own_G p.tables e below s₁ (mkF m 5 #[.val (.int p1), .val (.int p2), .val rf] [(.int p1)]) _
  refine own_go (fun t_ k_ => XS.iloadN X0.here hx rfl (hb hby d10_5) rfl k_) ?_
  show own_G p.tables e below s₁ (mkF m 6 #[.val (.int p1), .val (.int p2), .val rf] [(.int p2), (.int p1)]) _
  refine own_go (fun t_ k_ => XS.icmpYes X0.here hx rfl (pc0 := 6) (pc' := 16) rfl (hb hby d10_6) rfl (tlt h2).1 (by decide) (by decide) k_) ?_
  show own_G p.tables e below s₁ (mkF m 16 #[.val (.int p1), .val (.int p2), .val rf] []) _
  refine own_go (fun t_ k_ => XS.iloadN X0.here hx rfl (hb hby d10_16) rfl k_) ?_
  show own_G p.tables e below s₁ (mkF m 17 #[.val (.int p1), .val (.int p2), .val rf] [(.int p1)]) _
  exact own_end (v := some (.int p1)) X0 Bd.notSynchronized (fun h => by rw [Bd.returns] at h; cases h) (fun fs hr => retI X0 hx Bd.returns (hb hby d10_17) hr) e0 ⟨rfl, N0, rfl⟩ (by decide) (by decide)
theorem d9_0 : decode jdk_42_method_155_code 0 = .ok (.iload_n 0, 1) := by decide +kernel
theorem d9_1 : decode jdk_42_method_155_code 1 = .ok (.iload_n 1, 1) := by decide +kernel
theorem d9_2 : decode jdk_42_method_155_code 2 = .ok (.getstatic 1053, 3) := by decide +kernel
theorem d9_5 : decode jdk_42_method_155_code 5 = .ok (.invokestatic 1059, 3) := by decide +kernel
theorem d9_8 : decode jdk_42_method_155_code 8 = .ok (.pop, 1) := by decide +kernel
theorem d9_9 : decode jdk_42_method_155_code 9 = .ok (.return_, 1) := by decide +kernel
theorem ef_9 (m : MethodId) (p1 : Int32) (p2 : Int32) : entryFrame m #[(.int p1), (.int p2)] 2 = mkF m 0 #[.val (.int p1), .val (.int p2)] [] := by first | (simp [entryFrame, mkF, argsToLocals, Value.category]; done) | rfl
def Q9 (Z : State) (p1 : Int32) (p2 : Int32) (rf : Value) (h0 : Heap) (n0 : Nat) (v : Option Value) (h : Heap) (L : List Loc) : Prop := v = none ∧ Fr n0 L ∧ h = h0
set_option maxRecDepth 65536 in
set_option maxHeartbeats 40000000 in
theorem rm9 (l : Launch) (Z : State) (a0 : Array Value) (hw : ∀ d ∈ tables_1, d.before a0 Z = true) (ws : List Jvm.Cond) (p1 : Int32) (p2 : Int32) (rf : Value) (h0 : Heap) (n0 : Nat) (Z0 : n0 ≤ h0.size) (S_F : Sta Z h0 "jdk/internal/util/Preconditions" "SIOOBE_FORMATTER" "Ljava/util/function/BiFunction;" rf) (hrf : rf.isRef = true) (h1 : ¬ p1 < (0 : Int32)) (h2 : p1 < p2) :
    MetFree l (⟨"java/lang/String", "checkIndex", "(II)V"⟩ : MethodName) (head1 (Jvm.Cond.code (⟨"java/lang/String", "checkIndex", "(II)V"⟩ : MethodName) jdk_42_method_155_code 2 none :: ws) ({ frames := 1, cells := 0, slots := 0, locals := 14 } : Room)) (fun a U => a = #[(.int p1), (.int p2)] ∧ Z.Warmed39 U.vm ∧ U.heap = h0) (fun _ _ _ _ _ => True) (fun _ U o U' => ∃ v L, o = .returned v ∧ Q9 Z p1 p2 rf h0 n0 v U'.heap L ∧ FrameEnd U o U' L ({ frames := 1, cells := 0, slots := 0, locals := 14 } : Room).cells ({ frames := 1, cells := 0, slots := 0, locals := 14 } : Room).slots) := by
  refine MetFree.of_bodySF (plainFor_of_name own_pn0) hisR ?_
  intro p e s m args below meth c s₁ Bd hml0 hP hK
  obtain ⟨rfl, hZ, hh⟩ := hP
  have hx := Bd.exec
  have hby := Bd.bytes
  have hml : c.maxLocals = 2 := hml0
  have hown : s.vm.findClass "java/lang/String" = some m.cls := findClass_of_methodNamed Bd.named
  have hnm := (name_of_methodNamed Bd.named Bd.method).1
  have X0 : Stand p l e ({ frames := 1, cells := 0, slots := 0, locals := 14 } : Room) s m #[(.int p1), (.int p2)] below meth c s₁ [] 0 0 := Stand.of_body Bd
  have e0 : s₁.heap = h0 := by rw [← hh, Bd.state]; rfl
  have N0 := Fr.nil n0
  refine own_top (Q := Q9 Z p1 p2 rf h0 n0) (ef_9 m p1 p2) ?_
  show own_G p.tables e below s₁ (mkF m 0 #[.val (.int p1), .val (.int p2)] []) _
  refine own_go (fun t_ k_ => XS.iloadN X0.here hx rfl (hb hby d9_0) rfl k_) ?_
  show own_G p.tables e below s₁ (mkF m 1 #[.val (.int p1), .val (.int p2)] [(.int p1)]) _
  refine own_go (fun t_ k_ => XS.iloadN X0.here hx rfl (hb hby d9_1) rfl k_) ?_
  show own_G p.tables e below s₁ (mkF m 2 #[.val (.int p1), .val (.int p2)] [(.int p2), (.int p1)]) _
  obtain ⟨T1, X1, e1, st1⟩ := getS2 X0 hx hZ hown (host := "") (Or.inl (hw _ (List.mem_of_getElem? (i := 57) rfl))) Via.refl e0 S_F (g := (mkF m 2 #[.val (.int p1), .val (.int p2)] [(.int p2), (.int p1)])) rfl (hb hby d9_2)
  refine own_go st1 ?_
  show own_G p.tables e below T1 (mkF m 5 #[.val (.int p1), .val (.int p2)] [rf, (.int p2), (.int p1)]) _
  obtain ⟨_, _, ⟨T2, L2, k2, n2⟩, -, X2, ⟨Lc2, hQ2, l2, y2, z2⟩, st2⟩ := Jvm.LawKit.callS X1 hx (y := (⟨"jdk/internal/util/Preconditions", "checkIndex", "(IILjava/util/function/BiFunction;)I"⟩ : MethodName)) hown (mvT hZ (hw _ (List.mem_of_getElem? (i := 59) rfl))) (mvT hZ (hw _ (List.mem_of_getElem? (i := 60) rfl))) (mvT hZ (hw _ (List.mem_of_getElem? (i := 58) rfl))) (mvT hZ (hw _ (List.mem_of_getElem? (i := 61) rfl))) (by decide) (backOf (W := 0) (rm10 l Z a0 hw [] p1 p2 rf h0 n0 Z0 hrf h1 h2) hZ (hw _ (List.mem_of_getElem? (i := 61) rfl)) (hw _ (List.mem_of_getElem? (i := 58) rfl)) (by decide) (by decide)) (g := (mkF m 5 #[.val (.int p1), .val (.int p2)] [rf, (.int p2), (.int p1)])) rfl (by rw [hml]; rfl) (argsL := [(.int p1), (.int p2), rf]) (rest := []) (lenOf own_pd1 rfl) rfl (by show 2 * 0 + _ ≤ _; exact Nat.le_of_eq rfl) (hb hby d9_5) (fun _ _ => ⟨rfl, e1, (by decide : 0 + 0 ≤ _), (by decide : 0 + 0 ≤ _)⟩)
  dsimp only [Pt.U, Pt.locs, Pt.cells, Pt.slots] at X2 l2 y2 z2 st2 hQ2
  subst l2 y2 z2
  obtain ⟨rfl, N2q, e2⟩ := hQ2
  have N2 := Fr.app N0 N2q
  refine own_go st2 ?_
  show own_G p.tables e below T2 (mkF m 8 #[.val (.int p1), .val (.int p2)] [(.int p1)]) _
  refine own_go (fun t_ k_ => XS.pop X2.here hx rfl (hb hby d9_8) rfl rfl k_) ?_
  show own_G p.tables e below T2 (mkF m 9 #[.val (.int p1), .val (.int p2)] []) _
  exact own_end (v := none) X2 Bd.notSynchronized (fun _ => rfl) (fun fs hr => X2.returnOut hx Bd.returns (hb hby d9_9) hr) e2 ⟨rfl, N2, rfl⟩ (by decide) (by decide)
theorem d8_0 : decode jdk_43_method_2_code 0 = .ok (.iload_n 1, 1) := by decide +kernel
theorem d8_1 : decode jdk_43_method_2_code 1 = .ok (.aload_n 0, 1) := by decide +kernel
theorem d8_2 : decode jdk_43_method_2_code 2 = .ok (.arraylength, 1) := by decide +kernel
theorem d8_3 : decode jdk_43_method_2_code 3 = .ok (.invokestatic 9, 3) := by decide +kernel
theorem d8_6 : decode jdk_43_method_2_code 6 = .ok (.aload_n 0, 1) := by decide +kernel
theorem d8_7 : decode jdk_43_method_2_code 7 = .ok (.iload_n 1, 1) := by decide +kernel
theorem d8_8 : decode jdk_43_method_2_code 8 = .ok (.baload, 1) := by decide +kernel
theorem d8_9 : decode jdk_43_method_2_code 9 = .ok (.sipush 255, 3) := by decide +kernel
theorem d8_12 : decode jdk_43_method_2_code 12 = .ok (.iand, 1) := by decide +kernel
theorem d8_13 : decode jdk_43_method_2_code 13 = .ok (.i2c, 1) := by decide +kernel
theorem d8_14 : decode jdk_43_method_2_code 14 = .ok (.ireturn, 1) := by decide +kernel
theorem ef_8 (m : MethodId) (t : Addr) (p2 : Int32) : entryFrame m #[(.ref t), (.int p2)] 2 = mkF m 0 #[.val (.ref t), .val (.int p2)] [] := by first | (simp [entryFrame, mkF, argsToLocals, Value.category]; done) | rfl
def Q8 (Z : State) (t : Addr) (p2 : Int32) (rf : Value) (cl : Cell) (z b : Int32) (h0 : Heap) (n0 : Nat) (v : Option Value) (h : Heap) (L : List Loc) : Prop := v = some (.int (b &&& (255 : Int32))) ∧ Fr n0 L ∧ h = h0
set_option maxRecDepth 65536 in
set_option maxHeartbeats 40000000 in
theorem rm8 (l : Launch) (Z : State) (a0 : Array Value) (hw : ∀ d ∈ tables_1, d.before a0 Z = true) (ws : List Jvm.Cond) (t : Addr) (p2 : Int32) (rf : Value) (cl : Cell) (z b : Int32) (h0 : Heap) (n0 : Nat) (Z0 : n0 ≤ h0.size) (S_F : Sta Z h0 "jdk/internal/util/Preconditions" "SIOOBE_FORMATTER" "Ljava/util/function/BiFunction;" rf) (hrf : rf.isRef = true) (Ar : Arr Z h0 t cl .byte) (Sz : cl.slots.size = z.toNatClampNeg) (Mz : ¬ z < 0) (h1 : ¬ p2 < (0 : Int32)) (h2 : p2 < z) (hin : ¬ (p2 < 0 ∨ cl.slots.size ≤ p2.toNatClampNeg)) (hat : cl.slots[p2.toNatClampNeg]? = some (.int b)) :
    MetFree l (⟨"java/lang/StringLatin1", "charAt", "([BI)C"⟩ : MethodName) (head1 (Jvm.Cond.code (⟨"java/lang/StringLatin1", "charAt", "([BI)C"⟩ : MethodName) jdk_43_method_2_code 2 (some .char) :: ws) ({ frames := 2, cells := 0, slots := 0, locals := 27 } : Room)) (fun a U => a = #[(.ref t), (.int p2)] ∧ Z.Warmed39 U.vm ∧ U.heap = h0) (fun _ _ _ _ _ => True) (fun _ U o U' => ∃ v L, o = .returned v ∧ Q8 Z t p2 rf cl z b h0 n0 v U'.heap L ∧ FrameEnd U o U' L ({ frames := 2, cells := 0, slots := 0, locals := 27 } : Room).cells ({ frames := 2, cells := 0, slots := 0, locals := 27 } : Room).slots) := by
  refine MetFree.of_bodySF (plainFor_of_name own_pn2) hisR ?_
  intro p e s m args below meth c s₁ Bd hml0 hP hK
  obtain ⟨rfl, hZ, hh⟩ := hP
  have hx := Bd.exec
  have hby := Bd.bytes
  have hml : c.maxLocals = 2 := hml0
  have hown : s.vm.findClass "java/lang/StringLatin1" = some m.cls := findClass_of_methodNamed Bd.named
  have hnm := (name_of_methodNamed Bd.named Bd.method).1
  have X0 : Stand p l e ({ frames := 2, cells := 0, slots := 0, locals := 27 } : Room) s m #[(.ref t), (.int p2)] below meth c s₁ [] 0 0 := Stand.of_body Bd
  have e0 : s₁.heap = h0 := by rw [← hh, Bd.state]; rfl
  have N0 := Fr.nil n0
  refine own_top (Q := Q8 Z t p2 rf cl z b h0 n0) (ef_8 m t p2) ?_
  show own_G p.tables e below s₁ (mkF m 0 #[.val (.ref t), .val (.int p2)] []) _
  refine own_go (fun t_ k_ => XS.iloadN X0.here hx rfl (hb hby d8_0) rfl k_) ?_
  show own_G p.tables e below s₁ (mkF m 1 #[.val (.ref t), .val (.int p2)] [(.int p2)]) _
  refine own_go (fun t_ k_ => XS.aloadN X0.here hx rfl (hb hby d8_1) rfl rfl k_) ?_
  show own_G p.tables e below s₁ (mkF m 2 #[.val (.ref t), .val (.int p2)] [(.ref t), (.int p2)]) _
  refine own_go (fun t_ k_ => X0.arraylength hx (by rw [e0]; exact Ar.1) (State.isArrayOf_alike hZ.alike Ar.2.1) (g := (mkF m 2 #[.val (.ref t), .val (.int p2)] [(.ref t), (.int p2)])) rfl rfl (hb hby d8_2) _ k_) ?_
  show own_G p.tables e below s₁ (mkF m 3 #[.val (.ref t), .val (.int p2)] [(.int cl.slots.size.toInt32), (.int p2)]) _
  rw [len_of Sz Mz]
  show own_G p.tables e below s₁ (mkF m 3 #[.val (.ref t), .val (.int p2)] [(.int z), (.int p2)]) _
  obtain ⟨_, _, ⟨T1, L1, k1, n1⟩, -, X1, ⟨Lc1, hQ1, l1, y1, z1⟩, st1⟩ := Jvm.LawKit.callS X0 hx (y := (⟨"java/lang/String", "checkIndex", "(II)V"⟩ : MethodName)) hown (mvT hZ (hw _ (List.mem_of_getElem? (i := 54) rfl))) (mvT hZ (hw _ (List.mem_of_getElem? (i := 55) rfl))) (mvT hZ (hw _ (List.mem_of_getElem? (i := 28) rfl))) (mvT hZ (hw _ (List.mem_of_getElem? (i := 56) rfl))) (by decide) (backOf (W := 0) (rm9 l Z a0 hw [] p2 z rf h0 n0 Z0 S_F hrf h1 h2) hZ (hw _ (List.mem_of_getElem? (i := 56) rfl)) (hw _ (List.mem_of_getElem? (i := 28) rfl)) (by decide) (by decide)) (g := (mkF m 3 #[.val (.ref t), .val (.int p2)] [(.int z), (.int p2)])) rfl (by rw [hml]; rfl) (argsL := [(.int p2), (.int z)]) (rest := []) (lenOf own_pd2 rfl) rfl (by show 2 * 0 + _ ≤ _; exact Nat.le_of_eq rfl) (hb hby d8_3) (fun _ _ => ⟨rfl, e0, (by decide : 0 + 0 ≤ _), (by decide : 0 + 0 ≤ _)⟩)
  dsimp only [Pt.U, Pt.locs, Pt.cells, Pt.slots] at X1 l1 y1 z1 st1 hQ1
  subst l1 y1 z1
  obtain ⟨rfl, N1q, e1⟩ := hQ1
  have N1 := Fr.app N0 N1q
  refine own_go st1 ?_
  show own_G p.tables e below T1 (mkF m 6 #[.val (.ref t), .val (.int p2)] []) _
  refine own_go (fun t_ k_ => XS.aloadN X1.here hx rfl (hb hby d8_6) rfl rfl k_) ?_
  show own_G p.tables e below T1 (mkF m 7 #[.val (.ref t), .val (.int p2)] [(.ref t)]) _
  refine own_go (fun t_ k_ => XS.iloadN X1.here hx rfl (hb hby d8_7) rfl k_) ?_
  show own_G p.tables e below T1 (mkF m 8 #[.val (.ref t), .val (.int p2)] [(.int p2), (.ref t)]) _
  refine own_go (fun t_ k_ => X1.baloadBytes hx (j := p2) (v := (.int b)) (by rw [e1]; exact Ar.1) (State.isArrayOf_alike hZ.alike Ar.2.1) Ar.2.2 hin hat (g := (mkF m 8 #[.val (.ref t), .val (.int p2)] [(.int p2), (.ref t)])) rfl rfl (hb hby d8_8) _ k_) ?_
  show own_G p.tables e below T1 (mkF m 9 #[.val (.ref t), .val (.int p2)] [(.int b)]) _
  refine own_go (fun t_ k_ => XS.sipush X1.here hx rfl (hb hby d8_9) k_) ?_
  show own_G p.tables e below T1 (mkF m 12 #[.val (.ref t), .val (.int p2)] [(.int (255 : Int32)), (.int b)]) _
  refine own_go (fun t_ k_ => XS.iand X1.here hx rfl (hb hby d8_12) rfl k_) ?_
  show own_G p.tables e below T1 (mkF m 13 #[.val (.ref t), .val (.int p2)] [(.int (b &&& (255 : Int32)))]) _
  refine own_go (fun t_ k_ => XS.i2c X1.here hx rfl (hb hby d8_13) rfl k_) ?_
  show own_G p.tables e below T1 (mkF m 14 #[.val (.ref t), .val (.int p2)] [(.int ((b &&& (255 : Int32)).toUInt32.toUInt16.toUInt32.toInt32))]) _
  rw [i2c_mask]
  show own_G p.tables e below T1 (mkF m 14 #[.val (.ref t), .val (.int p2)] [(.int (b &&& (255 : Int32)))]) _
  exact own_end (v := some (.int (nar .char (b &&& (255 : Int32))))) X1 Bd.notSynchronized (fun h => by rw [Bd.returns] at h; cases h) (fun fs hr => retN X1 hx (z := (b &&& (255 : Int32))) (t := .char) Bd.returns (by simp) (hb hby d8_14) hr) e1 ⟨congrArg (fun z => some (Value.int z)) (i2c_mask b), N1, rfl⟩ (by decide) (by decide)
theorem d6_0 : decode jdk_42_method_56_code 0 = .ok (.aload_n 0, 1) := by decide +kernel
theorem d6_1 : decode jdk_42_method_56_code 1 = .ok (.invokevirtual 492, 3) := by decide +kernel
theorem d6_4 : decode jdk_42_method_56_code 4 = .ok (.ifCond .eq 12, 3) := by decide +kernel
theorem d6_7 : decode jdk_42_method_56_code 7 = .ok (.aload_n 0, 1) := by decide +kernel
theorem d6_8 : decode jdk_42_method_56_code 8 = .ok (.getfield 9, 3) := by decide +kernel
theorem d6_11 : decode jdk_42_method_56_code 11 = .ok (.iload_n 1, 1) := by decide +kernel
theorem d6_12 : decode jdk_42_method_56_code 12 = .ok (.invokestatic 495, 3) := by decide +kernel
theorem d6_15 : decode jdk_42_method_56_code 15 = .ok (.ireturn, 1) := by decide +kernel
theorem ef_6 (m : MethodId) (a1 : Addr) (p2 : Int32) : entryFrame m #[(.ref a1), (.int p2)] 2 = mkF m 0 #[.val (.ref a1), .val (.int p2)] [] := by first | (simp [entryFrame, mkF, argsToLocals, Value.category]; done) | rfl
def Q6 (Z : State) (a1 : Addr) (p2 : Int32) (cs : Int32) (rf : Value) (t : Addr) (cl : Cell) (z b : Int32) (h0 : Heap) (n0 : Nat) (v : Option Value) (h : Heap) (L : List Loc) : Prop := v = some (.int (b &&& (255 : Int32))) ∧ Fr n0 L ∧ h = h0
set_option maxRecDepth 65536 in
set_option maxHeartbeats 40000000 in
theorem rm6 (l : Launch) (Z : State) (a0 : Array Value) (hw : ∀ d ∈ tables_1, d.before a0 Z = true) (ws : List Jvm.Cond) (a1 : Addr) (p2 : Int32) (cs : Int32) (rf : Value) (t : Addr) (cl : Cell) (z b : Int32) (h0 : Heap) (n0 : Nat) (Z0 : n0 ≤ h0.size) (S_C : Sta Z h0 "java/lang/String" "COMPACT_STRINGS" "Z" (.int cs)) (hcs : ¬ cs = 0) (S_F : Sta Z h0 "jdk/internal/util/Preconditions" "SIOOBE_FORMATTER" "Ljava/util/function/BiFunction;" rf) (hrf : rf.isRef = true) (Es : Exa Z h0 a1 "java/lang/String") (Fc : Fld Z h0 a1 "java/lang/String" "coder" "B" (.int (0 : Int32))) (Fv : Fld Z h0 a1 "java/lang/String" "value" "[B" (.ref t)) (Ar : Arr Z h0 t cl .byte) (Sz : cl.slots.size = z.toNatClampNeg) (Mz : ¬ z < 0) (h1 : ¬ p2 < (0 : Int32)) (h2 : p2 < z) (hin : ¬ (p2 < 0 ∨ cl.slots.size ≤ p2.toNatClampNeg)) (hat : cl.slots[p2.toNatClampNeg]? = some (.int b)) :
    MetFree l (⟨"java/lang/String", "charAt", "(I)C"⟩ : MethodName) (head1 (Jvm.Cond.code (⟨"java/lang/String", "charAt", "(I)C"⟩ : MethodName) jdk_42_method_56_code 2 (some .char) :: ws) ({ frames := 3, cells := 0, slots := 0, locals := 40 } : Room)) (fun a U => a = #[(.ref a1), (.int p2)] ∧ Z.Warmed39 U.vm ∧ U.heap = h0) (fun _ _ _ _ _ => True) (fun _ U o U' => ∃ v L, o = .returned v ∧ Q6 Z a1 p2 cs rf t cl z b h0 n0 v U'.heap L ∧ FrameEnd U o U' L ({ frames := 3, cells := 0, slots := 0, locals := 40 } : Room).cells ({ frames := 3, cells := 0, slots := 0, locals := 40 } : Room).slots) := by
  refine MetFree.of_bodySF (plainFor_of_name own_pn0) hisR ?_
  intro p e s m args below meth c s₁ Bd hml0 hP hK
  obtain ⟨rfl, hZ, hh⟩ := hP
  have hx := Bd.exec
  have hby := Bd.bytes
  have hml : c.maxLocals = 2 := hml0
  have hown : s.vm.findClass "java/lang/String" = some m.cls := findClass_of_methodNamed Bd.named
  have hnm := (name_of_methodNamed Bd.named Bd.method).1
  have X0 : Stand p l e ({ frames := 3, cells := 0, slots := 0, locals := 40 } : Room) s m #[(.ref a1), (.int p2)] below meth c s₁ [] 0 0 := Stand.of_body Bd
  have e0 : s₁.heap = h0 := by rw [← hh, Bd.state]; rfl
  have N0 := Fr.nil n0
  refine own_top (Q := Q6 Z a1 p2 cs rf t cl z b h0 n0) (ef_6 m a1 p2) ?_
  show own_G p.tables e below s₁ (mkF m 0 #[.val (.ref a1), .val (.int p2)] []) _
  refine own_go (fun t_ k_ => XS.aloadN X0.here hx rfl (hb hby d6_0) rfl rfl k_) ?_
  show own_G p.tables e below s₁ (mkF m 1 #[.val (.ref a1), .val (.int p2)] [(.ref a1)]) _
  obtain ⟨cq1, kq1, q1a, q1b, q1c⟩ := isOf hZ e0 Es
  obtain ⟨_, _, ⟨T1, L1, k1, n1⟩, -, X1, ⟨Lc1, hQ1, l1, y1, z1⟩, st1⟩ := X0.virtualBack hx (y := (⟨"java/lang/String", "isLatin1", "()Z"⟩ : MethodName)) (z := (⟨"java/lang/String", "isLatin1", "()Z"⟩ : MethodName)) hown (mvT hZ (hw _ (List.mem_of_getElem? (i := 45) rfl))) (mvT hZ (hw _ (List.mem_of_getElem? (i := 46) rfl))) (notFace_of_selects (args := #[]) (mvT hZ (hw _ (List.mem_of_getElem? (i := 48) rfl)))) (mvT hZ (hw _ (List.mem_of_getElem? (i := 48) rfl))) (mvT hZ (hw _ (List.mem_of_getElem? (i := 47) rfl))) (by decide) (backOf (W := 0) (rm7 l Z a0 hw [] a1 cs h0 n0 Z0 S_C hcs Fc) hZ (hw _ (List.mem_of_getElem? (i := 49) rfl)) (hw _ (List.mem_of_getElem? (i := 28) rfl)) (by decide) (by decide)) q1a q1c (g := (mkF m 1 #[.val (.ref a1), .val (.int p2)] [(.ref a1)])) rfl (by rw [hml]; rfl) (Steps.refl _) (argsL := []) (rest := []) (lenOf own_pd3 rfl) rfl (by show 2 * 0 + _ ≤ _; exact Nat.le_of_eq rfl) (hb hby d6_1) (fun _ _ => ⟨rfl, e0, (by decide : 0 + 0 ≤ _), (by decide : 0 + 0 ≤ _)⟩)
  dsimp only [Pt.U, Pt.locs, Pt.cells, Pt.slots] at X1 l1 y1 z1 st1 hQ1
  subst l1 y1 z1
  obtain ⟨rfl, N1q, e1⟩ := hQ1
  have N1 := Fr.app N0 N1q
  refine own_go (fun t_ k_ => st1.trans k_) ?_
  show own_G p.tables e below T1 (mkF m 4 #[.val (.ref a1), .val (.int p2)] [(.int (1 : Int32))]) _
  refine own_go (fun t_ k_ => XS.ifNo X1.here hx rfl (hb hby d6_4) rfl ((if0 _ _).trans (feq (by decide : ¬ ((1 : Int32) = (0 : Int32)))).1) k_) ?_
  show own_G p.tables e below T1 (mkF m 7 #[.val (.ref a1), .val (.int p2)] []) _
  refine own_go (fun t_ k_ => XS.aloadN X1.here hx rfl (hb hby d6_7) rfl rfl k_) ?_
  show own_G p.tables e below T1 (mkF m 8 #[.val (.ref a1), .val (.int p2)] [(.ref a1)]) _
  obtain ⟨T2, X2, e2, st2⟩ := getF X1 hx hZ hown (host := "") (Or.inl (hw _ (List.mem_of_getElem? (i := 30) rfl))) Via.refl e1 Fv (g := (mkF m 8 #[.val (.ref a1), .val (.int p2)] [(.ref a1)])) rfl rfl (hb hby d6_8)
  refine own_go st2 ?_
  show own_G p.tables e below T2 (mkF m 11 #[.val (.ref a1), .val (.int p2)] [(.ref t)]) _
  refine own_go (fun t_ k_ => XS.iloadN X2.here hx rfl (hb hby d6_11) rfl k_) ?_
  show own_G p.tables e below T2 (mkF m 12 #[.val (.ref a1), .val (.int p2)] [(.int p2), (.ref t)]) _
  obtain ⟨_, _, ⟨T3, L3, k3, n3⟩, -, X3, ⟨Lc3, hQ3, l3, y3, z3⟩, st3⟩ := Jvm.LawKit.callS X2 hx (y := (⟨"java/lang/StringLatin1", "charAt", "([BI)C"⟩ : MethodName)) hown (mvT hZ (hw _ (List.mem_of_getElem? (i := 50) rfl))) (mvT hZ (hw _ (List.mem_of_getElem? (i := 51) rfl))) (mvT hZ (hw _ (List.mem_of_getElem? (i := 52) rfl))) (mvT hZ (hw _ (List.mem_of_getElem? (i := 53) rfl))) (by decide) (backOf (W := 0) (rm8 l Z a0 hw [] t p2 rf cl z b h0 n0 Z0 S_F hrf Ar Sz Mz h1 h2 hin hat) hZ (hw _ (List.mem_of_getElem? (i := 53) rfl)) (hw _ (List.mem_of_getElem? (i := 52) rfl)) (by decide) (by decide)) (g := (mkF m 12 #[.val (.ref a1), .val (.int p2)] [(.int p2), (.ref t)])) rfl (by rw [hml]; rfl) (argsL := [(.ref t), (.int p2)]) (rest := []) (lenOf own_pd4 rfl) rfl (by show 2 * 0 + _ ≤ _; exact Nat.le_of_eq rfl) (hb hby d6_12) (fun _ _ => ⟨rfl, e2, (by decide : 0 + 0 ≤ _), (by decide : 0 + 0 ≤ _)⟩)
  dsimp only [Pt.U, Pt.locs, Pt.cells, Pt.slots] at X3 l3 y3 z3 st3 hQ3
  subst l3 y3 z3
  obtain ⟨rfl, N3q, e3⟩ := hQ3
  have N3 := Fr.app N1 N3q
  refine own_go st3 ?_
  show own_G p.tables e below T3 (mkF m 15 #[.val (.ref a1), .val (.int p2)] [(.int (b &&& (255 : Int32)))]) _
  exact own_end (v := some (.int (nar .char (b &&& (255 : Int32))))) X3 Bd.notSynchronized (fun h => by rw [Bd.returns] at h; cases h) (fun fs hr => retN X3 hx (z := (b &&& (255 : Int32))) (t := .char) Bd.returns (by simp) (hb hby d6_15) hr) e3 ⟨congrArg (fun z => some (Value.int z)) (i2c_mask b), N3, rfl⟩ (by decide) (by decide)

def own_op (k : Int32) (w0 w1 w2 w3 w4 w5 : Addr) : Addr := if k = 0 then w0 else if k = 1 then w1 else if k = 2 then w2 else if k = 3 then w3 else if k = 4 then w4 else w5
def own_lb (a g ge : Addr) : Int32 := if Value.ref a = Value.ref g then 1 else if Value.ref a = Value.ref ge then 1 else 0
def own_opf (Z : State) (h : Heap) (a sy t : Addr) (cl : Cell) (n b : Int32) : Prop := Exa Z h a "com/example/replan/replan/model/Operator" ∧ Fld Z h a "com/example/replan/replan/model/Operator" "symbol" "Ljava/lang/String;" (.ref sy) ∧ Exa Z h sy "java/lang/String" ∧ Fld Z h sy "java/lang/String" "value" "[B" (.ref t) ∧ Fld Z h sy "java/lang/String" "coder" "B" (.int (0 : Int32)) ∧ Arr Z h t cl .byte ∧ cl.slots.size = n.toNatClampNeg ∧ ¬ n < 0 ∧ cl.slots[(0 : Int32).toNatClampNeg]? = some (.int b)
theorem own_mk {args : Array Value} {s : State} {f : String} {n b : Int32}
    (x1 : (Jvm.Cond.exactly (.static "com/example/replan/replan/model/Operator" f "Lcom/example/replan/replan/model/Operator;") "com/example/replan/replan/model/Operator").value args s none s [] = some true)
    (x2 : (Jvm.Cond.exactly (.field (.static "com/example/replan/replan/model/Operator" f "Lcom/example/replan/replan/model/Operator;") "com/example/replan/replan/model/Operator" "symbol" "Ljava/lang/String;") "java/lang/String").value args s none s [] = some true)
    (x3 : (Jvm.Cond.arrayOf (.field (.field (.static "com/example/replan/replan/model/Operator" f "Lcom/example/replan/replan/model/Operator;") "com/example/replan/replan/model/Operator" "symbol" "Ljava/lang/String;") "java/lang/String" "value" "[B") .byte).value args s none s [] = some true)
    (x4 : (Jvm.Cond.eq (.length (.field (.field (.static "com/example/replan/replan/model/Operator" f "Lcom/example/replan/replan/model/Operator;") "com/example/replan/replan/model/Operator" "symbol" "Ljava/lang/String;") "java/lang/String" "value" "[B")) (.int n)).value args s none s [] = some true)
    (x5 : (Jvm.Cond.eq (.field (.field (.static "com/example/replan/replan/model/Operator" f "Lcom/example/replan/replan/model/Operator;") "com/example/replan/replan/model/Operator" "symbol" "Ljava/lang/String;") "java/lang/String" "coder" "B") (.int 0)).value args s none s [] = some true)
    (x6 : (Jvm.Cond.eq (.elem (.field (.field (.static "com/example/replan/replan/model/Operator" f "Lcom/example/replan/replan/model/Operator;") "com/example/replan/replan/model/Operator" "symbol" "Ljava/lang/String;") "java/lang/String" "value" "[B") (.int 0)) (.int b)).value args s none s [] = some true) (hn : ¬ n < 0) :
    ∃ (a sy t : Addr) (cl : Cell), (Term.static "com/example/replan/replan/model/Operator" f "Lcom/example/replan/replan/model/Operator;").eval args s none [] s = some (.ref a) ∧ own_opf s s.heap a sy t cl n b := by
  obtain ⟨a, ev⟩ := exa_v x1
  obtain ⟨sy, ev2⟩ := exa_v x2
  obtain ⟨t, ev3⟩ := arr_v x3
  obtain ⟨cl, Ar⟩ := Arr.start ev3 x3
  have ha : s.arrayAt? t = some cl := Ar.fin (Vm.Alike.refl _)
  obtain ⟨hs, hl⟩ := own_len ev3 ha x4
  have f1 : s.fieldOf? a "com/example/replan/replan/model/Operator" "symbol" "Ljava/lang/String;" = some (.ref sy) := (fld_at ev).symm.trans ev2
  have f2 : s.fieldOf? sy "java/lang/String" "value" "[B" = some (.ref t) := (fld_at ev2).symm.trans ev3
  have f3 := own_field ev2 x5
  have f4 := own_elem ev3 ha (by decide) x6
  have hz : cl.slots.size = n.toNatClampNeg := by rw [← hl]; exact (own_back hs).1.symm
  exact ⟨a, sy, t, cl, ev, Exa.start ev x1, Fld.start f1, Exa.start ev2 x2, Fld.start f2, Fld.start f3, Ar, hz, hn, f4⟩
theorem own_six (x : Int32) : (x &&& (2147483647 : Int32)) % (6 : Int32) = 0 ∨ (x &&& (2147483647 : Int32)) % (6 : Int32) = 1 ∨ (x &&& (2147483647 : Int32)) % (6 : Int32) = 2 ∨ (x &&& (2147483647 : Int32)) % (6 : Int32) = 3 ∨ (x &&& (2147483647 : Int32)) % (6 : Int32) = 4 ∨ (x &&& (2147483647 : Int32)) % (6 : Int32) = 5 := by
  have q := (c_and x 2147483647 (by decide)).1
  have r := (c_iremV (x &&& 2147483647) 6).1 q (by decide)
  have e6 : (6 : Int32).toInt = 6 := rfl
  generalize (x &&& (2147483647 : Int32)) % (6 : Int32) = y at r ⊢
  have h : ∀ n : Int32, y.toInt = n.toInt → y = n := fun n hn => Int32.toInt_inj.mp hn
  have c : y.toInt = 0 ∨ y.toInt = 1 ∨ y.toInt = 2 ∨ y.toInt = 3 ∨ y.toInt = 4 ∨ y.toInt = 5 := by omega
  rcases c with c | c | c | c | c | c
  · exact Or.inl (h 0 c)
  · exact Or.inr (Or.inl (h 1 c))
  · exact Or.inr (Or.inr (Or.inl (h 2 c)))
  · exact Or.inr (Or.inr (Or.inr (Or.inl (h 3 c))))
  · exact Or.inr (Or.inr (Or.inr (Or.inr (Or.inl (h 4 c)))))
  · exact Or.inr (Or.inr (Or.inr (Or.inr (Or.inr (h 5 c)))))

theorem d1_0 : decode method_2_code 0 = .ok (.iload_n 0, 1) := by decide +kernel
theorem d1_1 : decode method_2_code 1 = .ok (.ifCond .ne 7, 3) := by decide +kernel
theorem d1_4 : decode method_2_code 4 = .ok (.getstatic 7, 3) := by decide +kernel
theorem d1_7 : decode method_2_code 7 = .ok (.areturn, 1) := by decide +kernel
theorem d1_8 : decode method_2_code 8 = .ok (.iload_n 0, 1) := by decide +kernel
theorem d1_9 : decode method_2_code 9 = .ok (.iconst 1, 1) := by decide +kernel
theorem d1_10 : decode method_2_code 10 = .ok (.if_icmp .ne 7, 3) := by decide +kernel
theorem d1_13 : decode method_2_code 13 = .ok (.getstatic 13, 3) := by decide +kernel
theorem d1_16 : decode method_2_code 16 = .ok (.areturn, 1) := by decide +kernel
theorem d1_17 : decode method_2_code 17 = .ok (.iload_n 0, 1) := by decide +kernel
theorem d1_18 : decode method_2_code 18 = .ok (.iconst 2, 1) := by decide +kernel
theorem d1_19 : decode method_2_code 19 = .ok (.if_icmp .ne 7, 3) := by decide +kernel
theorem d1_22 : decode method_2_code 22 = .ok (.getstatic 16, 3) := by decide +kernel
theorem d1_25 : decode method_2_code 25 = .ok (.areturn, 1) := by decide +kernel
theorem d1_26 : decode method_2_code 26 = .ok (.iload_n 0, 1) := by decide +kernel
theorem d1_27 : decode method_2_code 27 = .ok (.iconst 3, 1) := by decide +kernel
theorem d1_28 : decode method_2_code 28 = .ok (.if_icmp .ne 7, 3) := by decide +kernel
theorem d1_31 : decode method_2_code 31 = .ok (.getstatic 19, 3) := by decide +kernel
theorem d1_34 : decode method_2_code 34 = .ok (.areturn, 1) := by decide +kernel
theorem d1_35 : decode method_2_code 35 = .ok (.iload_n 0, 1) := by decide +kernel
theorem d1_36 : decode method_2_code 36 = .ok (.iconst 4, 1) := by decide +kernel
theorem d1_37 : decode method_2_code 37 = .ok (.if_icmp .ne 7, 3) := by decide +kernel
theorem d1_40 : decode method_2_code 40 = .ok (.getstatic 22, 3) := by decide +kernel
theorem d1_43 : decode method_2_code 43 = .ok (.areturn, 1) := by decide +kernel
theorem d1_44 : decode method_2_code 44 = .ok (.getstatic 25, 3) := by decide +kernel
theorem d1_47 : decode method_2_code 47 = .ok (.areturn, 1) := by decide +kernel
theorem ef_1 (m : MethodId) (p1 : Int32) : entryFrame m #[(.int p1)] 1 = mkF m 0 #[.val (.int p1)] [] := by first | (simp [entryFrame, mkF, argsToLocals, Value.category]; done) | rfl
def Q1 (Z : State) (p1 : Int32) (w0 w1 w2 w3 w4 w5 : Addr) (h0 : Heap) (n0 : Nat) (v : Option Value) (h : Heap) (L : List Loc) : Prop := v = some (.ref (own_op p1 w0 w1 w2 w3 w4 w5)) ∧ Fr n0 L ∧ h = h0
set_option maxRecDepth 65536 in
set_option maxHeartbeats 40000000 in
theorem rm1 (l : Launch) (Z : State) (a0 : Array Value) (hw : ∀ d ∈ tables_1, d.before a0 Z = true) (ws : List Jvm.Cond) (p1 : Int32) (w0 w1 w2 w3 w4 w5 : Addr) (h0 : Heap) (n0 : Nat) (Z0 : n0 ≤ h0.size) (S_EQUAL : Sta Z h0 "com/example/replan/replan/model/Operator" "EQUAL" "Lcom/example/replan/replan/model/Operator;" (.ref w0)) (S_NOT_EQUAL : Sta Z h0 "com/example/replan/replan/model/Operator" "NOT_EQUAL" "Lcom/example/replan/replan/model/Operator;" (.ref w1)) (S_LESS : Sta Z h0 "com/example/replan/replan/model/Operator" "LESS" "Lcom/example/replan/replan/model/Operator;" (.ref w2)) (S_LESS_OR_EQUAL : Sta Z h0 "com/example/replan/replan/model/Operator" "LESS_OR_EQUAL" "Lcom/example/replan/replan/model/Operator;" (.ref w3)) (S_GREATER : Sta Z h0 "com/example/replan/replan/model/Operator" "GREATER" "Lcom/example/replan/replan/model/Operator;" (.ref w4)) (S_GREATER_OR_EQUAL : Sta Z h0 "com/example/replan/replan/model/Operator" "GREATER_OR_EQUAL" "Lcom/example/replan/replan/model/Operator;" (.ref w5)) :
    MetFree l (⟨"com/example/replan/replan/model/OperatorIsLowerBoundPinLaw", "pick", "(I)Lcom/example/replan/replan/model/Operator;"⟩ : MethodName) (head1 (Jvm.Cond.code (⟨"com/example/replan/replan/model/OperatorIsLowerBoundPinLaw", "pick", "(I)Lcom/example/replan/replan/model/Operator;"⟩ : MethodName) method_2_code 1 (some (.object "com/example/replan/replan/model/Operator")) :: ws) ({ frames := 0, cells := 0, slots := 0, locals := 0 } : Room)) (fun a U => a = #[(.int p1)] ∧ Z.Warmed39 U.vm ∧ U.heap = h0) (fun _ _ _ _ _ => True) (fun _ U o U' => ∃ v L, o = .returned v ∧ Q1 Z p1 w0 w1 w2 w3 w4 w5 h0 n0 v U'.heap L ∧ FrameEnd U o U' L ({ frames := 0, cells := 0, slots := 0, locals := 0 } : Room).cells ({ frames := 0, cells := 0, slots := 0, locals := 0 } : Room).slots) := by
  refine MetFree.of_bodySF (plainFor_of_name own_pn3) hisR ?_
  intro p e s m args below meth c s₁ Bd hml0 hP hK
  obtain ⟨rfl, hZ, hh⟩ := hP
  have hx := Bd.exec
  have hby := Bd.bytes
  have hml : c.maxLocals = 1 := hml0
  have hown : s.vm.findClass "com/example/replan/replan/model/OperatorIsLowerBoundPinLaw" = some m.cls := findClass_of_methodNamed Bd.named
  have hnm := (name_of_methodNamed Bd.named Bd.method).1
  have X0 : Stand p l e ({ frames := 0, cells := 0, slots := 0, locals := 0 } : Room) s m #[(.int p1)] below meth c s₁ [] 0 0 := Stand.of_body Bd
  have e0 : s₁.heap = h0 := by rw [← hh, Bd.state]; rfl
  have N0 := Fr.nil n0
  refine own_top (Q := Q1 Z p1 w0 w1 w2 w3 w4 w5 h0 n0) (ef_1 m p1) ?_
  show own_G p.tables e below s₁ (mkF m 0 #[.val (.int p1)] []) _
  refine own_go (fun t_ k_ => XS.iloadN X0.here hx rfl (hb hby d1_0) rfl k_) ?_
  show own_G p.tables e below s₁ (mkF m 1 #[.val (.int p1)] [(.int p1)]) _
  by_cases hc1_1 : p1 = (0 : Int32)
  · skip
    refine own_go (fun t_ k_ => XS.ifNo X0.here hx rfl (hb hby d1_1) rfl ((if0 _ _).trans (teq hc1_1).2) k_) ?_
    show own_G p.tables e below s₁ (mkF m 4 #[.val (.int p1)] []) _
    obtain ⟨T2, X2, e2, st2⟩ := getS2 X0 hx hZ hown (host := "") (Or.inl (hw _ (List.mem_of_getElem? (i := 5) rfl))) Via.refl e0 S_EQUAL (g := (mkF m 4 #[.val (.int p1)] [])) rfl (hb hby d1_4)
    refine own_go st2 ?_
    show own_G p.tables e below T2 (mkF m 7 #[.val (.int p1)] [(.ref w0)]) _
    exact own_end (v := some (.ref w0)) X2 Bd.notSynchronized (fun h => by rw [Bd.returns] at h; cases h) (fun fs hr => own_retR X2 hx rfl Bd.returns rfl (hb hby d1_7) hr) e2 ⟨congrArg (fun z => some (Value.ref z)) (by unfold own_op; rw [if_pos hc1_1]), N0, rfl⟩ (by decide) (by decide)
  · skip
    refine own_go (fun t_ k_ => XS.ifYes X0.here hx rfl (pc0 := 1) (pc' := 8) rfl (hb hby d1_1) rfl ((if0 _ _).trans (feq hc1_1).2) (by decide) (by decide) k_) ?_
    show own_G p.tables e below s₁ (mkF m 8 #[.val (.int p1)] []) _
    refine own_go (fun t_ k_ => XS.iloadN X0.here hx rfl (hb hby d1_8) rfl k_) ?_
    show own_G p.tables e below s₁ (mkF m 9 #[.val (.int p1)] [(.int p1)]) _
    refine own_go (fun t_ k_ => XS.iconst X0.here hx rfl (hb hby d1_9) k_) ?_
    show own_G p.tables e below s₁ (mkF m 10 #[.val (.int p1)] [(.int (1 : Int32)), (.int p1)]) _
    by_cases hc10_3 : p1 = (1 : Int32)
    · skip
      refine own_go (fun t_ k_ => XS.icmpNo X0.here hx rfl (hb hby d1_10) rfl (teq hc10_3).2 k_) ?_
      show own_G p.tables e below s₁ (mkF m 13 #[.val (.int p1)] []) _
      obtain ⟨T4, X4, e4, st4⟩ := getS2 X0 hx hZ hown (host := "") (Or.inl (hw _ (List.mem_of_getElem? (i := 66) rfl))) Via.refl e0 S_NOT_EQUAL (g := (mkF m 13 #[.val (.int p1)] [])) rfl (hb hby d1_13)
      refine own_go st4 ?_
      show own_G p.tables e below T4 (mkF m 16 #[.val (.int p1)] [(.ref w1)]) _
      exact own_end (v := some (.ref w1)) X4 Bd.notSynchronized (fun h => by rw [Bd.returns] at h; cases h) (fun fs hr => own_retR X4 hx rfl Bd.returns rfl (hb hby d1_16) hr) e4 ⟨congrArg (fun z => some (Value.ref z)) (by unfold own_op; rw [if_neg hc1_1, if_pos hc10_3]), N0, rfl⟩ (by decide) (by decide)
    · skip
      refine own_go (fun t_ k_ => XS.icmpYes X0.here hx rfl (pc0 := 10) (pc' := 17) rfl (hb hby d1_10) rfl (feq hc10_3).2 (by decide) (by decide) k_) ?_
      show own_G p.tables e below s₁ (mkF m 17 #[.val (.int p1)] []) _
      refine own_go (fun t_ k_ => XS.iloadN X0.here hx rfl (hb hby d1_17) rfl k_) ?_
      show own_G p.tables e below s₁ (mkF m 18 #[.val (.int p1)] [(.int p1)]) _
      refine own_go (fun t_ k_ => XS.iconst X0.here hx rfl (hb hby d1_18) k_) ?_
      show own_G p.tables e below s₁ (mkF m 19 #[.val (.int p1)] [(.int (2 : Int32)), (.int p1)]) _
      by_cases hc19_5 : p1 = (2 : Int32)
      · skip
        refine own_go (fun t_ k_ => XS.icmpNo X0.here hx rfl (hb hby d1_19) rfl (teq hc19_5).2 k_) ?_
        show own_G p.tables e below s₁ (mkF m 22 #[.val (.int p1)] []) _
        obtain ⟨T6, X6, e6, st6⟩ := getS2 X0 hx hZ hown (host := "") (Or.inl (hw _ (List.mem_of_getElem? (i := 64) rfl))) Via.refl e0 S_LESS (g := (mkF m 22 #[.val (.int p1)] [])) rfl (hb hby d1_22)
        refine own_go st6 ?_
        show own_G p.tables e below T6 (mkF m 25 #[.val (.int p1)] [(.ref w2)]) _
        exact own_end (v := some (.ref w2)) X6 Bd.notSynchronized (fun h => by rw [Bd.returns] at h; cases h) (fun fs hr => own_retR X6 hx rfl Bd.returns rfl (hb hby d1_25) hr) e6 ⟨congrArg (fun z => some (Value.ref z)) (by unfold own_op; rw [if_neg hc1_1, if_neg hc10_3, if_pos hc19_5]), N0, rfl⟩ (by decide) (by decide)
      · skip
        refine own_go (fun t_ k_ => XS.icmpYes X0.here hx rfl (pc0 := 19) (pc' := 26) rfl (hb hby d1_19) rfl (feq hc19_5).2 (by decide) (by decide) k_) ?_
        show own_G p.tables e below s₁ (mkF m 26 #[.val (.int p1)] []) _
        refine own_go (fun t_ k_ => XS.iloadN X0.here hx rfl (hb hby d1_26) rfl k_) ?_
        show own_G p.tables e below s₁ (mkF m 27 #[.val (.int p1)] [(.int p1)]) _
        refine own_go (fun t_ k_ => XS.iconst X0.here hx rfl (hb hby d1_27) k_) ?_
        show own_G p.tables e below s₁ (mkF m 28 #[.val (.int p1)] [(.int (3 : Int32)), (.int p1)]) _
        by_cases hc28_7 : p1 = (3 : Int32)
        · skip
          refine own_go (fun t_ k_ => XS.icmpNo X0.here hx rfl (hb hby d1_28) rfl (teq hc28_7).2 k_) ?_
          show own_G p.tables e below s₁ (mkF m 31 #[.val (.int p1)] []) _
          obtain ⟨T8, X8, e8, st8⟩ := getS2 X0 hx hZ hown (host := "") (Or.inl (hw _ (List.mem_of_getElem? (i := 62) rfl))) Via.refl e0 S_LESS_OR_EQUAL (g := (mkF m 31 #[.val (.int p1)] [])) rfl (hb hby d1_31)
          refine own_go st8 ?_
          show own_G p.tables e below T8 (mkF m 34 #[.val (.int p1)] [(.ref w3)]) _
          exact own_end (v := some (.ref w3)) X8 Bd.notSynchronized (fun h => by rw [Bd.returns] at h; cases h) (fun fs hr => own_retR X8 hx rfl Bd.returns rfl (hb hby d1_34) hr) e8 ⟨congrArg (fun z => some (Value.ref z)) (by unfold own_op; rw [if_neg hc1_1, if_neg hc10_3, if_neg hc19_5, if_pos hc28_7]), N0, rfl⟩ (by decide) (by decide)
        · skip
          refine own_go (fun t_ k_ => XS.icmpYes X0.here hx rfl (pc0 := 28) (pc' := 35) rfl (hb hby d1_28) rfl (feq hc28_7).2 (by decide) (by decide) k_) ?_
          show own_G p.tables e below s₁ (mkF m 35 #[.val (.int p1)] []) _
          refine own_go (fun t_ k_ => XS.iloadN X0.here hx rfl (hb hby d1_35) rfl k_) ?_
          show own_G p.tables e below s₁ (mkF m 36 #[.val (.int p1)] [(.int p1)]) _
          refine own_go (fun t_ k_ => XS.iconst X0.here hx rfl (hb hby d1_36) k_) ?_
          show own_G p.tables e below s₁ (mkF m 37 #[.val (.int p1)] [(.int (4 : Int32)), (.int p1)]) _
          by_cases hc37_9 : p1 = (4 : Int32)
          · skip
            refine own_go (fun t_ k_ => XS.icmpNo X0.here hx rfl (hb hby d1_37) rfl (teq hc37_9).2 k_) ?_
            show own_G p.tables e below s₁ (mkF m 40 #[.val (.int p1)] []) _
            obtain ⟨T10, X10, e10, st10⟩ := getS2 X0 hx hZ hown (host := "") (Or.inl (hw _ (List.mem_of_getElem? (i := 69) rfl))) Via.refl e0 S_GREATER (g := (mkF m 40 #[.val (.int p1)] [])) rfl (hb hby d1_40)
            refine own_go st10 ?_
            show own_G p.tables e below T10 (mkF m 43 #[.val (.int p1)] [(.ref w4)]) _
            exact own_end (v := some (.ref w4)) X10 Bd.notSynchronized (fun h => by rw [Bd.returns] at h; cases h) (fun fs hr => own_retR X10 hx rfl Bd.returns rfl (hb hby d1_43) hr) e10 ⟨congrArg (fun z => some (Value.ref z)) (by unfold own_op; rw [if_neg hc1_1, if_neg hc10_3, if_neg hc19_5, if_neg hc28_7, if_pos hc37_9]), N0, rfl⟩ (by decide) (by decide)
          · skip
            refine own_go (fun t_ k_ => XS.icmpYes X0.here hx rfl (pc0 := 37) (pc' := 44) rfl (hb hby d1_37) rfl (feq hc37_9).2 (by decide) (by decide) k_) ?_
            show own_G p.tables e below s₁ (mkF m 44 #[.val (.int p1)] []) _
            obtain ⟨T11, X11, e11, st11⟩ := getS2 X0 hx hZ hown (host := "") (Or.inl (hw _ (List.mem_of_getElem? (i := 68) rfl))) Via.refl e0 S_GREATER_OR_EQUAL (g := (mkF m 44 #[.val (.int p1)] [])) rfl (hb hby d1_44)
            refine own_go st11 ?_
            show own_G p.tables e below T11 (mkF m 47 #[.val (.int p1)] [(.ref w5)]) _
            exact own_end (v := some (.ref w5)) X11 Bd.notSynchronized (fun h => by rw [Bd.returns] at h; cases h) (fun fs hr => own_retR X11 hx rfl Bd.returns rfl (hb hby d1_47) hr) e11 ⟨congrArg (fun z => some (Value.ref z)) (by unfold own_op; rw [if_neg hc1_1, if_neg hc10_3, if_neg hc19_5, if_neg hc28_7, if_neg hc37_9]), N0, rfl⟩ (by decide) (by decide)
theorem d2_0 : decode prog_19_method_7_code 0 = .ok (.aload_n 0, 1) := by decide +kernel
theorem d2_1 : decode prog_19_method_7_code 1 = .ok (.getstatic 16, 3) := by decide +kernel
theorem d2_4 : decode prog_19_method_7_code 4 = .ok (.if_acmp .eq 10, 3) := by decide +kernel
theorem d2_7 : decode prog_19_method_7_code 7 = .ok (.aload_n 0, 1) := by decide +kernel
theorem d2_8 : decode prog_19_method_7_code 8 = .ok (.getstatic 19, 3) := by decide +kernel
theorem d2_11 : decode prog_19_method_7_code 11 = .ok (.if_acmp .ne 7, 3) := by decide +kernel
theorem d2_14 : decode prog_19_method_7_code 14 = .ok (.iconst 1, 1) := by decide +kernel
theorem d2_15 : decode prog_19_method_7_code 15 = .ok (.goto 4, 3) := by decide +kernel
theorem d2_18 : decode prog_19_method_7_code 18 = .ok (.iconst 0, 1) := by decide +kernel
theorem d2_19 : decode prog_19_method_7_code 19 = .ok (.ireturn, 1) := by decide +kernel
theorem ef_2 (m : MethodId) (a1 : Addr) : entryFrame m #[(.ref a1)] 1 = mkF m 0 #[.val (.ref a1)] [] := by first | (simp [entryFrame, mkF, argsToLocals, Value.category]; done) | rfl
def Q2 (Z : State) (a1 : Addr) (w4 w5 : Addr) (h0 : Heap) (n0 : Nat) (v : Option Value) (h : Heap) (L : List Loc) : Prop := v = some (.int (own_lb a1 w4 w5)) ∧ Fr n0 L ∧ h = h0
set_option maxRecDepth 65536 in
set_option maxHeartbeats 40000000 in
theorem rm2 (l : Launch) (Z : State) (a0 : Array Value) (hw : ∀ d ∈ tables_1, d.before a0 Z = true) (ws : List Jvm.Cond) (a1 : Addr) (w4 w5 : Addr) (h0 : Heap) (n0 : Nat) (Z0 : n0 ≤ h0.size) (S_GREATER : Sta Z h0 "com/example/replan/replan/model/Operator" "GREATER" "Lcom/example/replan/replan/model/Operator;" (.ref w4)) (S_GREATER_OR_EQUAL : Sta Z h0 "com/example/replan/replan/model/Operator" "GREATER_OR_EQUAL" "Lcom/example/replan/replan/model/Operator;" (.ref w5)) :
    MetFree l (⟨"com/example/replan/replan/model/Operator", "isLowerBound", "()Z"⟩ : MethodName) (head1 (Jvm.Cond.code (⟨"com/example/replan/replan/model/Operator", "isLowerBound", "()Z"⟩ : MethodName) prog_19_method_7_code 1 (some .boolean) :: ws) ({ frames := 0, cells := 0, slots := 0, locals := 0 } : Room)) (fun a U => a = #[(.ref a1)] ∧ Z.Warmed39 U.vm ∧ U.heap = h0) (fun _ _ _ _ _ => True) (fun _ U o U' => ∃ v L, o = .returned v ∧ Q2 Z a1 w4 w5 h0 n0 v U'.heap L ∧ FrameEnd U o U' L ({ frames := 0, cells := 0, slots := 0, locals := 0 } : Room).cells ({ frames := 0, cells := 0, slots := 0, locals := 0 } : Room).slots) := by
  refine MetFree.of_bodySF (plainFor_of_name own_pn4) hisR ?_
  intro p e s m args below meth c s₁ Bd hml0 hP hK
  obtain ⟨rfl, hZ, hh⟩ := hP
  have hx := Bd.exec
  have hby := Bd.bytes
  have hml : c.maxLocals = 1 := hml0
  have hown : s.vm.findClass "com/example/replan/replan/model/Operator" = some m.cls := findClass_of_methodNamed Bd.named
  have hnm := (name_of_methodNamed Bd.named Bd.method).1
  have X0 : Stand p l e ({ frames := 0, cells := 0, slots := 0, locals := 0 } : Room) s m #[(.ref a1)] below meth c s₁ [] 0 0 := Stand.of_body Bd
  have e0 : s₁.heap = h0 := by rw [← hh, Bd.state]; rfl
  have N0 := Fr.nil n0
  refine own_top (Q := Q2 Z a1 w4 w5 h0 n0) (ef_2 m a1) ?_
  show own_G p.tables e below s₁ (mkF m 0 #[.val (.ref a1)] []) _
  refine own_go (fun t_ k_ => XS.aloadN X0.here hx rfl (hb hby d2_0) rfl rfl k_) ?_
  show own_G p.tables e below s₁ (mkF m 1 #[.val (.ref a1)] [(.ref a1)]) _
  obtain ⟨T1, X1, e1, st1⟩ := getS2 X0 hx hZ hown (host := "") (Or.inl (hw _ (List.mem_of_getElem? (i := 13) rfl))) Via.refl e0 S_GREATER (g := (mkF m 1 #[.val (.ref a1)] [(.ref a1)])) rfl (hb hby d2_1)
  refine own_go st1 ?_
  show own_G p.tables e below T1 (mkF m 4 #[.val (.ref a1)] [(.ref w4), (.ref a1)]) _
  by_cases hc4_2 : ((.ref a1) : Value) = (.ref w4)
  · skip
    refine own_go (fun t_ k_ => Jvm.RoadKit.acmp (g := (mkF m 4 #[.val (.ref a1)] [(.ref w4), (.ref a1)])) X1 hx rfl rfl rfl (pc0 := 4) (pc' := 14) (same := true) rfl (hb hby d2_4) rfl (decide_eq_true hc4_2) (by decide) (by decide) k_) ?_
    show own_G p.tables e below T1 (mkF m 14 #[.val (.ref a1)] []) _
    refine own_go (fun t_ k_ => XS.iconst X1.here hx rfl (hb hby d2_14) k_) ?_
    show own_G p.tables e below T1 (mkF m 15 #[.val (.ref a1)] [(.int (1 : Int32))]) _
    refine own_go (fun t_ k_ => XS.goto X1.here hx rfl (pc0 := 15) (pc' := 19) rfl (hb hby d2_15) (by decide) (by decide) k_) ?_
    show own_G p.tables e below T1 (mkF m 19 #[.val (.ref a1)] [(.int (1 : Int32))]) _
    exact own_end (v := some (.int (1 : Int32))) X1 Bd.notSynchronized (fun h => by rw [Bd.returns] at h; cases h) (fun fs hr => retN X1 hx (z := (1 : Int32)) (t := .boolean) Bd.returns (by simp) (hb hby d2_19) hr) e1 ⟨congrArg (fun z => some (Value.int z)) (by unfold own_lb; rw [if_pos hc4_2]), N0, rfl⟩ (by decide) (by decide)
  · skip
    refine own_go (fun t_ k_ => Jvm.RoadKit.acmp (g := (mkF m 4 #[.val (.ref a1)] [(.ref w4), (.ref a1)])) X1 hx rfl rfl rfl (pc0 := 4) (pc' := 7) (same := false) rfl (hb hby d2_4) rfl (decide_eq_false hc4_2) (by decide) (by decide) k_) ?_
    show own_G p.tables e below T1 (mkF m 7 #[.val (.ref a1)] []) _
    refine own_go (fun t_ k_ => XS.aloadN X1.here hx rfl (hb hby d2_7) rfl rfl k_) ?_
    show own_G p.tables e below T1 (mkF m 8 #[.val (.ref a1)] [(.ref a1)]) _
    obtain ⟨T3, X3, e3, st3⟩ := getS2 X1 hx hZ hown (host := "") (Or.inl (hw _ (List.mem_of_getElem? (i := 15) rfl))) Via.refl e1 S_GREATER_OR_EQUAL (g := (mkF m 8 #[.val (.ref a1)] [(.ref a1)])) rfl (hb hby d2_8)
    refine own_go st3 ?_
    show own_G p.tables e below T3 (mkF m 11 #[.val (.ref a1)] [(.ref w5), (.ref a1)]) _
    by_cases hc11_4 : ((.ref a1) : Value) = (.ref w5)
    · skip
      refine own_go (fun t_ k_ => Jvm.RoadKit.acmp (g := (mkF m 11 #[.val (.ref a1)] [(.ref w5), (.ref a1)])) X3 hx rfl rfl rfl (pc0 := 11) (pc' := 14) (same := true) rfl (hb hby d2_11) rfl (decide_eq_true hc11_4) (by decide) (by decide) k_) ?_
      show own_G p.tables e below T3 (mkF m 14 #[.val (.ref a1)] []) _
      refine own_go (fun t_ k_ => XS.iconst X3.here hx rfl (hb hby d2_14) k_) ?_
      show own_G p.tables e below T3 (mkF m 15 #[.val (.ref a1)] [(.int (1 : Int32))]) _
      refine own_go (fun t_ k_ => XS.goto X3.here hx rfl (pc0 := 15) (pc' := 19) rfl (hb hby d2_15) (by decide) (by decide) k_) ?_
      show own_G p.tables e below T3 (mkF m 19 #[.val (.ref a1)] [(.int (1 : Int32))]) _
      exact own_end (v := some (.int (1 : Int32))) X3 Bd.notSynchronized (fun h => by rw [Bd.returns] at h; cases h) (fun fs hr => retN X3 hx (z := (1 : Int32)) (t := .boolean) Bd.returns (by simp) (hb hby d2_19) hr) e3 ⟨congrArg (fun z => some (Value.int z)) (by unfold own_lb; rw [if_neg hc4_2, if_pos hc11_4]), N0, rfl⟩ (by decide) (by decide)
    · skip
      refine own_go (fun t_ k_ => Jvm.RoadKit.acmp (g := (mkF m 11 #[.val (.ref a1)] [(.ref w5), (.ref a1)])) X3 hx rfl rfl rfl (pc0 := 11) (pc' := 18) (same := false) rfl (hb hby d2_11) rfl (decide_eq_false hc11_4) (by decide) (by decide) k_) ?_
      show own_G p.tables e below T3 (mkF m 18 #[.val (.ref a1)] []) _
      refine own_go (fun t_ k_ => XS.iconst X3.here hx rfl (hb hby d2_18) k_) ?_
      show own_G p.tables e below T3 (mkF m 19 #[.val (.ref a1)] [(.int (0 : Int32))]) _
      exact own_end (v := some (.int (0 : Int32))) X3 Bd.notSynchronized (fun h => by rw [Bd.returns] at h; cases h) (fun fs hr => retN X3 hx (z := (0 : Int32)) (t := .boolean) Bd.returns (by simp) (hb hby d2_19) hr) e3 ⟨congrArg (fun z => some (Value.int z)) (by unfold own_lb; rw [if_neg hc4_2, if_neg hc11_4]), N0, rfl⟩ (by decide) (by decide)
theorem d3_0 : decode prog_19_method_4_code 0 = .ok (.aload_n 0, 1) := by decide +kernel
theorem d3_1 : decode prog_19_method_4_code 1 = .ok (.getfield 41, 3) := by decide +kernel
theorem d3_4 : decode prog_19_method_4_code 4 = .ok (.areturn, 1) := by decide +kernel
theorem ef_3 (m : MethodId) (a1 : Addr) : entryFrame m #[(.ref a1)] 1 = mkF m 0 #[.val (.ref a1)] [] := by first | (simp [entryFrame, mkF, argsToLocals, Value.category]; done) | rfl
def Q3 (Z : State) (a1 : Addr) (sy : Addr) (h0 : Heap) (n0 : Nat) (v : Option Value) (h : Heap) (L : List Loc) : Prop := v = some (.ref sy) ∧ Fr n0 L ∧ h = h0
set_option maxRecDepth 65536 in
set_option maxHeartbeats 40000000 in
theorem rm3 (l : Launch) (Z : State) (a0 : Array Value) (hw : ∀ d ∈ tables_1, d.before a0 Z = true) (ws : List Jvm.Cond) (a1 : Addr) (sy : Addr) (h0 : Heap) (n0 : Nat) (Z0 : n0 ≤ h0.size) (Fs : Fld Z h0 a1 "com/example/replan/replan/model/Operator" "symbol" "Ljava/lang/String;" (.ref sy)) :
    MetFree l (⟨"com/example/replan/replan/model/Operator", "symbol", "()Ljava/lang/String;"⟩ : MethodName) (head1 (Jvm.Cond.code (⟨"com/example/replan/replan/model/Operator", "symbol", "()Ljava/lang/String;"⟩ : MethodName) prog_19_method_4_code 1 (some (.object "java/lang/String")) :: ws) ({ frames := 0, cells := 0, slots := 0, locals := 0 } : Room)) (fun a U => a = #[(.ref a1)] ∧ Z.Warmed39 U.vm ∧ U.heap = h0) (fun _ _ _ _ _ => True) (fun _ U o U' => ∃ v L, o = .returned v ∧ Q3 Z a1 sy h0 n0 v U'.heap L ∧ FrameEnd U o U' L ({ frames := 0, cells := 0, slots := 0, locals := 0 } : Room).cells ({ frames := 0, cells := 0, slots := 0, locals := 0 } : Room).slots) := by
  refine MetFree.of_bodySF (plainFor_of_name own_pn4) hisR ?_
  intro p e s m args below meth c s₁ Bd hml0 hP hK
  obtain ⟨rfl, hZ, hh⟩ := hP
  have hx := Bd.exec
  have hby := Bd.bytes
  have hml : c.maxLocals = 1 := hml0
  have hown : s.vm.findClass "com/example/replan/replan/model/Operator" = some m.cls := findClass_of_methodNamed Bd.named
  have hnm := (name_of_methodNamed Bd.named Bd.method).1
  have X0 : Stand p l e ({ frames := 0, cells := 0, slots := 0, locals := 0 } : Room) s m #[(.ref a1)] below meth c s₁ [] 0 0 := Stand.of_body Bd
  have e0 : s₁.heap = h0 := by rw [← hh, Bd.state]; rfl
  have N0 := Fr.nil n0
  refine own_top (Q := Q3 Z a1 sy h0 n0) (ef_3 m a1) ?_
  show own_G p.tables e below s₁ (mkF m 0 #[.val (.ref a1)] []) _
  refine own_go (fun t_ k_ => XS.aloadN X0.here hx rfl (hb hby d3_0) rfl rfl k_) ?_
  show own_G p.tables e below s₁ (mkF m 1 #[.val (.ref a1)] [(.ref a1)]) _
  obtain ⟨T1, X1, e1, st1⟩ := getF X0 hx hZ hown (host := "") (Or.inl (hw _ (List.mem_of_getElem? (i := 22) rfl))) Via.refl e0 Fs (g := (mkF m 1 #[.val (.ref a1)] [(.ref a1)])) rfl rfl (hb hby d3_1)
  refine own_go st1 ?_
  show own_G p.tables e below T1 (mkF m 4 #[.val (.ref a1)] [(.ref sy)]) _
  exact own_end (v := some (.ref sy)) X1 Bd.notSynchronized (fun h => by rw [Bd.returns] at h; cases h) (fun fs hr => own_retR X1 hx rfl Bd.returns rfl (hb hby d3_4) hr) e1 ⟨rfl, N0, rfl⟩ (by decide) (by decide)
theorem ef_0 (m : MethodId) (p1 : Int32) : entryFrame m #[(.int p1)] maxLocals = mkF m 0 #[.val (.int p1), .unset, .unset, .unset, .unset, .unset] [] := by first | (simp [entryFrame, mkF, argsToLocals, Value.category, maxLocals]; done) | rfl
def Q0 (Z : State) (p1 : Int32) (cs : Int32) (rf : Value) (w0 w1 w2 w3 w4 w5 : Addr) (y0 t0 : Addr) (c0 : Cell) (y1 t1 : Addr) (c1 : Cell) (y2 t2 : Addr) (c2 : Cell) (y3 t3 : Addr) (c3 : Cell) (y4 t4 : Addr) (c4 : Cell) (y5 t5 : Addr) (c5 : Cell) (h0 : Heap) (n0 : Nat) (v : Option Value) (h : Heap) (L : List Loc) : Prop := v = some (.int (1 : Int32)) ∧ Fr n0 L
set_option maxRecDepth 65536 in
set_option maxHeartbeats 40000000 in
theorem rm0 (l : Launch) (Z : State) (a0 : Array Value) (hw : ∀ d ∈ tables_1, d.before a0 Z = true) (ws : List Jvm.Cond) (p1 : Int32) (cs : Int32) (rf : Value) (w0 w1 w2 w3 w4 w5 : Addr) (y0 t0 : Addr) (c0 : Cell) (y1 t1 : Addr) (c1 : Cell) (y2 t2 : Addr) (c2 : Cell) (y3 t3 : Addr) (c3 : Cell) (y4 t4 : Addr) (c4 : Cell) (y5 t5 : Addr) (c5 : Cell) (h0 : Heap) (n0 : Nat) (Z0 : n0 ≤ h0.size) (S_C : Sta Z h0 "java/lang/String" "COMPACT_STRINGS" "Z" (.int cs)) (hcs : ¬ cs = 0) (S_F : Sta Z h0 "jdk/internal/util/Preconditions" "SIOOBE_FORMATTER" "Ljava/util/function/BiFunction;" rf) (hrf : rf.isRef = true) (S_EQUAL : Sta Z h0 "com/example/replan/replan/model/Operator" "EQUAL" "Lcom/example/replan/replan/model/Operator;" (.ref w0)) (S_NOT_EQUAL : Sta Z h0 "com/example/replan/replan/model/Operator" "NOT_EQUAL" "Lcom/example/replan/replan/model/Operator;" (.ref w1)) (S_LESS : Sta Z h0 "com/example/replan/replan/model/Operator" "LESS" "Lcom/example/replan/replan/model/Operator;" (.ref w2)) (S_LESS_OR_EQUAL : Sta Z h0 "com/example/replan/replan/model/Operator" "LESS_OR_EQUAL" "Lcom/example/replan/replan/model/Operator;" (.ref w3)) (S_GREATER : Sta Z h0 "com/example/replan/replan/model/Operator" "GREATER" "Lcom/example/replan/replan/model/Operator;" (.ref w4)) (S_GREATER_OR_EQUAL : Sta Z h0 "com/example/replan/replan/model/Operator" "GREATER_OR_EQUAL" "Lcom/example/replan/replan/model/Operator;" (.ref w5)) (O0 : own_opf Z h0 w0 y0 t0 c0 1 61) (O1 : own_opf Z h0 w1 y1 t1 c1 2 60) (O2 : own_opf Z h0 w2 y2 t2 c2 1 60) (O3 : own_opf Z h0 w3 y3 t3 c3 2 60) (O4 : own_opf Z h0 w4 y4 t4 c4 1 62) (O5 : own_opf Z h0 w5 y5 t5 c5 2 62) (n0_4 : ¬ (Value.ref w0 = Value.ref w4)) (n0_5 : ¬ (Value.ref w0 = Value.ref w5)) (n1_4 : ¬ (Value.ref w1 = Value.ref w4)) (n1_5 : ¬ (Value.ref w1 = Value.ref w5)) (n2_4 : ¬ (Value.ref w2 = Value.ref w4)) (n2_5 : ¬ (Value.ref w2 = Value.ref w5)) (n3_4 : ¬ (Value.ref w3 = Value.ref w4)) (n3_5 : ¬ (Value.ref w3 = Value.ref w5)) :
    MetFree l x (head1 (Jvm.Cond.code x code maxLocals ret :: ws) room_1) (fun a U => a = #[(.int p1)] ∧ Z.Warmed39 U.vm ∧ U.heap = h0) (fun _ _ _ _ _ => True) (fun _ U o U' => ∃ v L, o = .returned v ∧ Q0 Z p1 cs rf w0 w1 w2 w3 w4 w5 y0 t0 c0 y1 t1 c1 y2 t2 c2 y3 t3 c3 y4 t4 c4 y5 t5 c5 h0 n0 v U'.heap L ∧ FrameEnd U o U' L 0 0) := by
  refine MetFree.of_bodySF (plainFor_of_name own_pn3) hisR ?_
  intro p e s m args below meth c s₁ Bd hml0 hP hK
  obtain ⟨rfl, hZ, hh⟩ := hP
  have hx := Bd.exec
  have hby := Bd.bytes
  have hml : c.maxLocals = 6 := hml0
  have hown : s.vm.findClass "com/example/replan/replan/model/OperatorIsLowerBoundPinLaw" = some m.cls := findClass_of_methodNamed Bd.named
  have hnm := (name_of_methodNamed Bd.named Bd.method).1
  have X0 : Stand p l e room_1 s m #[(.int p1)] below meth c s₁ [] 0 0 := Stand.of_body Bd
  have e0 : s₁.heap = h0 := by rw [← hh, Bd.state]; rfl
  have N0 := Fr.nil n0
  refine own_top (Q := Q0 Z p1 cs rf w0 w1 w2 w3 w4 w5 y0 t0 c0 y1 t1 c1 y2 t2 c2 y3 t3 c3 y4 t4 c4 y5 t5 c5 h0 n0) (ef_0 m p1) ?_
  have tailY : ∀ (k z b : Int32) (a sy t : Addr) (cl : Cell) (Tt : State) (locs : List Loc), Stand p l e room_1 s m #[(.int p1)] below meth c Tt locs 0 0 → Tt.heap = h0 → Fr n0 locs → own_opf Z h0 a sy t cl z b → own_lb a w4 w5 = (1 : Int32) → (0 : Int32) < z → (b &&& (255 : Int32)) = (62 : Int32) → ¬ k < (4 : Int32) → own_G p.tables e below Tt (mkF m 12 #[.val (.int p1), .val (.int k), .unset, .unset, .unset, .unset] [(.ref a)]) (own_P below s (Q0 Z p1 cs rf w0 w1 w2 w3 w4 w5 y0 t0 c0 y1 t1 c1 y2 t2 c2 y3 t3 c3 y4 t4 c4 y5 t5 c5 h0 n0) 0 0) := by
    intro k z b a sy t cl Tt locs Xt et Nt O hlb hz hb1 hk
    obtain ⟨Eo, Fs, Es, Fv, Fc, Ar, Sz, Mz, hat⟩ := O
    have hin : ¬ ((0 : Int32) < 0 ∨ cl.slots.size ≤ (0 : Int32).toNatClampNeg) := inb_of Sz ⟨by decide, hz⟩
    show own_G p.tables e below Tt (mkF m 12 #[.val (.int p1), .val (.int k), .unset, .unset, .unset, .unset] [(.ref a)]) _
    refine own_go (fun t_ k_ => XS.astoreN Xt.here hx rfl (hb hby at_12) rfl rfl (l' := #[.val (.int p1), .val (.int k), .val (.ref a), .unset, .unset, .unset]) rfl k_) ?_
    show own_G p.tables e below Tt (mkF m 13 #[.val (.int p1), .val (.int k), .val (.ref a), .unset, .unset, .unset] []) _
    refine own_go (fun t_ k_ => XS.aloadN Xt.here hx rfl (hb hby at_13) rfl rfl k_) ?_
    show own_G p.tables e below Tt (mkF m 14 #[.val (.int p1), .val (.int k), .val (.ref a), .unset, .unset, .unset] [(.ref a)]) _
    obtain ⟨cq1, kq1, q1a, q1b, q1c⟩ := isOf hZ et Eo
    obtain ⟨_, _, ⟨T1, L1, k1, n1⟩, -, X1, ⟨Lc1, hQ1, l1, y1, z1⟩, st1⟩ := Xt.virtualBack hx (y := (⟨"com/example/replan/replan/model/Operator", "isLowerBound", "()Z"⟩ : MethodName)) (z := (⟨"com/example/replan/replan/model/Operator", "isLowerBound", "()Z"⟩ : MethodName)) hown (mvT hZ (hw _ (List.mem_of_getElem? (i := 8) rfl))) (mvT hZ (hw _ (List.mem_of_getElem? (i := 9) rfl))) (notFace_of_selects (args := #[]) (mvT hZ (hw _ (List.mem_of_getElem? (i := 11) rfl)))) (mvT hZ (hw _ (List.mem_of_getElem? (i := 11) rfl))) (mvT hZ (hw _ (List.mem_of_getElem? (i := 10) rfl))) (by decide) (backOf (W := 0) (rm2 l Z a0 hw [] a w4 w5 h0 n0 Z0 S_GREATER S_GREATER_OR_EQUAL) hZ (hw _ (List.mem_of_getElem? (i := 12) rfl)) (hw _ (List.mem_of_getElem? (i := 6) rfl)) (by decide) (by decide)) q1a q1c (g := (mkF m 14 #[.val (.int p1), .val (.int k), .val (.ref a), .unset, .unset, .unset] [(.ref a)])) rfl (by rw [hml]; rfl) (Steps.refl _) (argsL := []) (rest := []) (lenOf own_pd3 rfl) rfl (by show 2 * 0 + _ ≤ _; exact Nat.le_of_eq rfl) (hb hby at_14) (fun _ _ => ⟨rfl, et, (by decide : 0 + 0 ≤ _), (by decide : 0 + 0 ≤ _)⟩)
    dsimp only [Pt.U, Pt.locs, Pt.cells, Pt.slots] at X1 l1 y1 z1 st1 hQ1
    subst l1 y1 z1
    obtain ⟨rfl, N1q, e1⟩ := hQ1
    have N1 := Fr.app Nt N1q
    refine own_go (fun t_ k_ => st1.trans k_) ?_
    show own_G p.tables e below T1 (mkF m 17 #[.val (.int p1), .val (.int k), .val (.ref a), .unset, .unset, .unset] [(.int (own_lb a w4 w5))]) _
    rw [hlb]
    show own_G p.tables e below T1 (mkF m 17 #[.val (.int p1), .val (.int k), .val (.ref a), .unset, .unset, .unset] [(.int (1 : Int32))]) _
    refine own_go (fun t_ k_ => XS.istoreN X1.here hx rfl (hb hby at_17) rfl (l' := #[.val (.int p1), .val (.int k), .val (.ref a), .val (.int (1 : Int32)), .unset, .unset]) rfl k_) ?_
    show own_G p.tables e below T1 (mkF m 18 #[.val (.int p1), .val (.int k), .val (.ref a), .val (.int (1 : Int32)), .unset, .unset] []) _
    refine own_go (fun t_ k_ => XS.aloadN X1.here hx rfl (hb hby at_18) rfl rfl k_) ?_
    show own_G p.tables e below T1 (mkF m 19 #[.val (.int p1), .val (.int k), .val (.ref a), .val (.int (1 : Int32)), .unset, .unset] [(.ref a)]) _
    obtain ⟨cq2, kq2, q2a, q2b, q2c⟩ := isOf hZ e1 Eo
    obtain ⟨_, _, ⟨T2, L2, k2, n2⟩, -, X2, ⟨Lc2, hQ2, l2, y2, z2⟩, st2⟩ := X1.virtualBack hx (y := (⟨"com/example/replan/replan/model/Operator", "symbol", "()Ljava/lang/String;"⟩ : MethodName)) (z := (⟨"com/example/replan/replan/model/Operator", "symbol", "()Ljava/lang/String;"⟩ : MethodName)) hown (mvT hZ (hw _ (List.mem_of_getElem? (i := 17) rfl))) (mvT hZ (hw _ (List.mem_of_getElem? (i := 18) rfl))) (notFace_of_selects (args := #[]) (mvT hZ (hw _ (List.mem_of_getElem? (i := 20) rfl)))) (mvT hZ (hw _ (List.mem_of_getElem? (i := 20) rfl))) (mvT hZ (hw _ (List.mem_of_getElem? (i := 19) rfl))) (by decide) (backOf (W := 0) (rm3 l Z a0 hw [] a sy h0 n0 Z0 Fs) hZ (hw _ (List.mem_of_getElem? (i := 21) rfl)) (hw _ (List.mem_of_getElem? (i := 6) rfl)) (by decide) (by decide)) q2a q2c (g := (mkF m 19 #[.val (.int p1), .val (.int k), .val (.ref a), .val (.int (1 : Int32)), .unset, .unset] [(.ref a)])) rfl (by rw [hml]; rfl) (Steps.refl _) (argsL := []) (rest := []) (lenOf own_pd5 rfl) rfl (by show 2 * 0 + _ ≤ _; exact Nat.le_of_eq rfl) (hb hby at_19) (fun _ _ => ⟨rfl, e1, (by decide : 0 + 0 ≤ _), (by decide : 0 + 0 ≤ _)⟩)
    dsimp only [Pt.U, Pt.locs, Pt.cells, Pt.slots] at X2 l2 y2 z2 st2 hQ2
    subst l2 y2 z2
    obtain ⟨rfl, N2q, e2⟩ := hQ2
    have N2 := Fr.app N1 N2q
    refine own_go (fun t_ k_ => st2.trans k_) ?_
    show own_G p.tables e below T2 (mkF m 22 #[.val (.int p1), .val (.int k), .val (.ref a), .val (.int (1 : Int32)), .unset, .unset] [(.ref sy)]) _
    refine own_go (fun t_ k_ => XS.astore X2.here hx rfl (hb hby at_22) rfl rfl (l' := #[.val (.int p1), .val (.int k), .val (.ref a), .val (.int (1 : Int32)), .val (.ref sy), .unset]) rfl k_) ?_
    show own_G p.tables e below T2 (mkF m 24 #[.val (.int p1), .val (.int k), .val (.ref a), .val (.int (1 : Int32)), .val (.ref sy), .unset] []) _
    refine own_go (fun t_ k_ => XS.aload X2.here hx rfl (hb hby at_24) rfl rfl k_) ?_
    show own_G p.tables e below T2 (mkF m 26 #[.val (.int p1), .val (.int k), .val (.ref a), .val (.int (1 : Int32)), .val (.ref sy), .unset] [(.ref sy)]) _
    obtain ⟨cq3, kq3, q3a, q3b, q3c⟩ := isOf hZ e2 Es
    obtain ⟨_, _, ⟨T3, L3, k3, n3⟩, -, X3, ⟨Lc3, hQ3, l3, y3, z3⟩, st3⟩ := X2.virtualBack hx (y := (⟨"java/lang/String", "length", "()I"⟩ : MethodName)) (z := (⟨"java/lang/String", "length", "()I"⟩ : MethodName)) hown (mvT hZ (hw _ (List.mem_of_getElem? (i := 24) rfl))) (mvT hZ (hw _ (List.mem_of_getElem? (i := 25) rfl))) (notFace_of_selects (args := #[]) (mvT hZ (hw _ (List.mem_of_getElem? (i := 27) rfl)))) (mvT hZ (hw _ (List.mem_of_getElem? (i := 27) rfl))) (mvT hZ (hw _ (List.mem_of_getElem? (i := 26) rfl))) (by decide) (backOf (W := 0) (rm4 l Z a0 hw [] sy cs t cl z h0 n0 Z0 S_C hcs Es Fc Fv Ar Sz Mz) hZ (hw _ (List.mem_of_getElem? (i := 29) rfl)) (hw _ (List.mem_of_getElem? (i := 28) rfl)) (by decide) (by decide)) q3a q3c (g := (mkF m 26 #[.val (.int p1), .val (.int k), .val (.ref a), .val (.int (1 : Int32)), .val (.ref sy), .unset] [(.ref sy)])) rfl (by rw [hml]; rfl) (Steps.refl _) (argsL := []) (rest := []) (lenOf own_pd6 rfl) rfl (by show 2 * 0 + _ ≤ _; exact Nat.le_of_eq rfl) (hb hby at_26) (fun _ _ => ⟨rfl, e2, (by decide : 0 + 0 ≤ _), (by decide : 0 + 0 ≤ _)⟩)
    dsimp only [Pt.U, Pt.locs, Pt.cells, Pt.slots] at X3 l3 y3 z3 st3 hQ3
    subst l3 y3 z3
    obtain ⟨rfl, N3q, e3⟩ := hQ3
    have N3 := Fr.app N2 N3q
    refine own_go (fun t_ k_ => st3.trans k_) ?_
    show own_G p.tables e below T3 (mkF m 29 #[.val (.int p1), .val (.int k), .val (.ref a), .val (.int (1 : Int32)), .val (.ref sy), .unset] [(.int z)]) _
    refine own_go (fun t_ k_ => XS.ifNo X3.here hx rfl (hb hby at_29) rfl ((if0 _ _).trans (tlt hz).2.2.2) k_) ?_
    show own_G p.tables e below T3 (mkF m 32 #[.val (.int p1), .val (.int k), .val (.ref a), .val (.int (1 : Int32)), .val (.ref sy), .unset] []) _
    refine own_go (fun t_ k_ => XS.aload X3.here hx rfl (hb hby at_32) rfl rfl k_) ?_
    show own_G p.tables e below T3 (mkF m 34 #[.val (.int p1), .val (.int k), .val (.ref a), .val (.int (1 : Int32)), .val (.ref sy), .unset] [(.ref sy)]) _
    refine own_go (fun t_ k_ => XS.iconst X3.here hx rfl (hb hby at_34) k_) ?_
    show own_G p.tables e below T3 (mkF m 35 #[.val (.int p1), .val (.int k), .val (.ref a), .val (.int (1 : Int32)), .val (.ref sy), .unset] [(.int (0 : Int32)), (.ref sy)]) _
    obtain ⟨cq4, kq4, q4a, q4b, q4c⟩ := isOf hZ e3 Es
    obtain ⟨_, _, ⟨T4, L4, k4, n4⟩, -, X4, ⟨Lc4, hQ4, l4, y4, z4⟩, st4⟩ := X3.virtualBack hx (y := (⟨"java/lang/String", "charAt", "(I)C"⟩ : MethodName)) (z := (⟨"java/lang/String", "charAt", "(I)C"⟩ : MethodName)) hown (mvT hZ (hw _ (List.mem_of_getElem? (i := 40) rfl))) (mvT hZ (hw _ (List.mem_of_getElem? (i := 41) rfl))) (notFace_of_selects (args := #[]) (mvT hZ (hw _ (List.mem_of_getElem? (i := 43) rfl)))) (mvT hZ (hw _ (List.mem_of_getElem? (i := 43) rfl))) (mvT hZ (hw _ (List.mem_of_getElem? (i := 42) rfl))) (by decide) (backOf (W := 0) (rm6 l Z a0 hw [] sy (0 : Int32) cs rf t cl z b h0 n0 Z0 S_C hcs S_F hrf Es Fc Fv Ar Sz Mz (by decide) hz hin hat) hZ (hw _ (List.mem_of_getElem? (i := 44) rfl)) (hw _ (List.mem_of_getElem? (i := 28) rfl)) (by decide) (by decide)) q4a q4c (g := (mkF m 35 #[.val (.int p1), .val (.int k), .val (.ref a), .val (.int (1 : Int32)), .val (.ref sy), .unset] [(.int (0 : Int32)), (.ref sy)])) rfl (by rw [hml]; rfl) (Steps.refl _) (argsL := [(.int (0 : Int32))]) (rest := []) (lenOf own_pd7 rfl) rfl (by show 2 * 0 + _ ≤ _; exact Nat.le_of_eq rfl) (hb hby at_35) (fun _ _ => ⟨rfl, e3, (by decide : 0 + 0 ≤ _), (by decide : 0 + 0 ≤ _)⟩)
    dsimp only [Pt.U, Pt.locs, Pt.cells, Pt.slots] at X4 l4 y4 z4 st4 hQ4
    subst l4 y4 z4
    obtain ⟨rfl, N4q, e4⟩ := hQ4
    have N4 := Fr.app N3 N4q
    refine own_go (fun t_ k_ => st4.trans k_) ?_
    show own_G p.tables e below T4 (mkF m 38 #[.val (.int p1), .val (.int k), .val (.ref a), .val (.int (1 : Int32)), .val (.ref sy), .unset] [(.int (b &&& (255 : Int32)))]) _
    refine own_go (fun t_ k_ => XS.bipush X4.here hx rfl (hb hby at_38) k_) ?_
    show own_G p.tables e below T4 (mkF m 40 #[.val (.int p1), .val (.int k), .val (.ref a), .val (.int (1 : Int32)), .val (.ref sy), .unset] [(.int (62 : Int32)), (.int (b &&& (255 : Int32)))]) _
    refine own_go (fun t_ k_ => XS.icmpNo X4.here hx rfl (hb hby at_40) rfl (teq hb1).2 k_) ?_
    show own_G p.tables e below T4 (mkF m 43 #[.val (.int p1), .val (.int k), .val (.ref a), .val (.int (1 : Int32)), .val (.ref sy), .unset] []) _
    refine own_go (fun t_ k_ => XS.iconst X4.here hx rfl (hb hby at_43) k_) ?_
    show own_G p.tables e below T4 (mkF m 44 #[.val (.int p1), .val (.int k), .val (.ref a), .val (.int (1 : Int32)), .val (.ref sy), .unset] [(.int (1 : Int32))]) _
    refine own_go (fun t_ k_ => XS.goto X4.here hx rfl (pc0 := 44) (pc' := 48) rfl (hb hby at_44) (by decide) (by decide) k_) ?_
    show own_G p.tables e below T4 (mkF m 48 #[.val (.int p1), .val (.int k), .val (.ref a), .val (.int (1 : Int32)), .val (.ref sy), .unset] [(.int (1 : Int32))]) _
    refine own_go (fun t_ k_ => XS.istore X4.here hx rfl (hb hby at_48) rfl (l' := #[.val (.int p1), .val (.int k), .val (.ref a), .val (.int (1 : Int32)), .val (.ref sy), .val (.int (1 : Int32))]) rfl k_) ?_
    show own_G p.tables e below T4 (mkF m 50 #[.val (.int p1), .val (.int k), .val (.ref a), .val (.int (1 : Int32)), .val (.ref sy), .val (.int (1 : Int32))] []) _
    refine own_go (fun t_ k_ => XS.iloadN X4.here hx rfl (hb hby at_50) rfl k_) ?_
    show own_G p.tables e below T4 (mkF m 51 #[.val (.int p1), .val (.int k), .val (.ref a), .val (.int (1 : Int32)), .val (.ref sy), .val (.int (1 : Int32))] [(.int (1 : Int32))]) _
    refine own_go (fun t_ k_ => XS.iloadN X4.here hx rfl (hb hby at_51) rfl k_) ?_
    show own_G p.tables e below T4 (mkF m 52 #[.val (.int p1), .val (.int k), .val (.ref a), .val (.int (1 : Int32)), .val (.ref sy), .val (.int (1 : Int32))] [(.int k), (.int (1 : Int32))]) _
    refine own_go (fun t_ k_ => XS.iconst X4.here hx rfl (hb hby at_52) k_) ?_
    show own_G p.tables e below T4 (mkF m 53 #[.val (.int p1), .val (.int k), .val (.ref a), .val (.int (1 : Int32)), .val (.ref sy), .val (.int (1 : Int32))] [(.int (4 : Int32)), (.int k), (.int (1 : Int32))]) _
    refine own_go (fun t_ k_ => XS.icmpNo X4.here hx rfl (hb hby at_53) rfl (flt hk).1 k_) ?_
    show own_G p.tables e below T4 (mkF m 56 #[.val (.int p1), .val (.int k), .val (.ref a), .val (.int (1 : Int32)), .val (.ref sy), .val (.int (1 : Int32))] [(.int (1 : Int32))]) _
    refine own_go (fun t_ k_ => XS.iconst X4.here hx rfl (hb hby at_56) k_) ?_
    show own_G p.tables e below T4 (mkF m 57 #[.val (.int p1), .val (.int k), .val (.ref a), .val (.int (1 : Int32)), .val (.ref sy), .val (.int (1 : Int32))] [(.int (1 : Int32)), (.int (1 : Int32))]) _
    refine own_go (fun t_ k_ => XS.goto X4.here hx rfl (pc0 := 57) (pc' := 61) rfl (hb hby at_57) (by decide) (by decide) k_) ?_
    show own_G p.tables e below T4 (mkF m 61 #[.val (.int p1), .val (.int k), .val (.ref a), .val (.int (1 : Int32)), .val (.ref sy), .val (.int (1 : Int32))] [(.int (1 : Int32)), (.int (1 : Int32))]) _
    refine own_go (fun t_ k_ => XS.icmpNo X4.here hx rfl (hb hby at_61) rfl (teq (by decide : ((1 : Int32) = (1 : Int32)))).2 k_) ?_
    show own_G p.tables e below T4 (mkF m 64 #[.val (.int p1), .val (.int k), .val (.ref a), .val (.int (1 : Int32)), .val (.ref sy), .val (.int (1 : Int32))] []) _
    refine own_go (fun t_ k_ => XS.iloadN X4.here hx rfl (hb hby at_64) rfl k_) ?_
    show own_G p.tables e below T4 (mkF m 65 #[.val (.int p1), .val (.int k), .val (.ref a), .val (.int (1 : Int32)), .val (.ref sy), .val (.int (1 : Int32))] [(.int (1 : Int32))]) _
    refine own_go (fun t_ k_ => XS.iload X4.here hx rfl (hb hby at_65) rfl k_) ?_
    show own_G p.tables e below T4 (mkF m 67 #[.val (.int p1), .val (.int k), .val (.ref a), .val (.int (1 : Int32)), .val (.ref sy), .val (.int (1 : Int32))] [(.int (1 : Int32)), (.int (1 : Int32))]) _
    refine own_go (fun t_ k_ => XS.icmpNo X4.here hx rfl (hb hby at_67) rfl (teq (by decide : ((1 : Int32) = (1 : Int32)))).2 k_) ?_
    show own_G p.tables e below T4 (mkF m 70 #[.val (.int p1), .val (.int k), .val (.ref a), .val (.int (1 : Int32)), .val (.ref sy), .val (.int (1 : Int32))] []) _
    refine own_go (fun t_ k_ => XS.iconst X4.here hx rfl (hb hby at_70) k_) ?_
    show own_G p.tables e below T4 (mkF m 71 #[.val (.int p1), .val (.int k), .val (.ref a), .val (.int (1 : Int32)), .val (.ref sy), .val (.int (1 : Int32))] [(.int (1 : Int32))]) _
    refine own_go (fun t_ k_ => XS.goto X4.here hx rfl (pc0 := 71) (pc' := 75) rfl (hb hby at_71) (by decide) (by decide) k_) ?_
    show own_G p.tables e below T4 (mkF m 75 #[.val (.int p1), .val (.int k), .val (.ref a), .val (.int (1 : Int32)), .val (.ref sy), .val (.int (1 : Int32))] [(.int (1 : Int32))]) _
    exact own_end (v := some (.int (1 : Int32))) X4 Bd.notSynchronized (fun h => by rw [Bd.returns] at h; cases h) (fun fs hr => retN X4 hx (z := (1 : Int32)) (t := .boolean) Bd.returns (by simp) (hb hby at_75) hr) e4 ⟨rfl, N4⟩ (by decide) (by decide)
  have tailN : ∀ (k z b : Int32) (a sy t : Addr) (cl : Cell) (Tt : State) (locs : List Loc), Stand p l e room_1 s m #[(.int p1)] below meth c Tt locs 0 0 → Tt.heap = h0 → Fr n0 locs → own_opf Z h0 a sy t cl z b → own_lb a w4 w5 = (0 : Int32) → (0 : Int32) < z → ¬ ((b &&& (255 : Int32)) = (62 : Int32)) → k < (4 : Int32) → own_G p.tables e below Tt (mkF m 12 #[.val (.int p1), .val (.int k), .unset, .unset, .unset, .unset] [(.ref a)]) (own_P below s (Q0 Z p1 cs rf w0 w1 w2 w3 w4 w5 y0 t0 c0 y1 t1 c1 y2 t2 c2 y3 t3 c3 y4 t4 c4 y5 t5 c5 h0 n0) 0 0) := by
    intro k z b a sy t cl Tt locs Xt et Nt O hlb hz hb1 hk
    obtain ⟨Eo, Fs, Es, Fv, Fc, Ar, Sz, Mz, hat⟩ := O
    have hin : ¬ ((0 : Int32) < 0 ∨ cl.slots.size ≤ (0 : Int32).toNatClampNeg) := inb_of Sz ⟨by decide, hz⟩
    show own_G p.tables e below Tt (mkF m 12 #[.val (.int p1), .val (.int k), .unset, .unset, .unset, .unset] [(.ref a)]) _
    refine own_go (fun t_ k_ => XS.astoreN Xt.here hx rfl (hb hby at_12) rfl rfl (l' := #[.val (.int p1), .val (.int k), .val (.ref a), .unset, .unset, .unset]) rfl k_) ?_
    show own_G p.tables e below Tt (mkF m 13 #[.val (.int p1), .val (.int k), .val (.ref a), .unset, .unset, .unset] []) _
    refine own_go (fun t_ k_ => XS.aloadN Xt.here hx rfl (hb hby at_13) rfl rfl k_) ?_
    show own_G p.tables e below Tt (mkF m 14 #[.val (.int p1), .val (.int k), .val (.ref a), .unset, .unset, .unset] [(.ref a)]) _
    obtain ⟨cq5, kq5, q5a, q5b, q5c⟩ := isOf hZ et Eo
    obtain ⟨_, _, ⟨T5, L5, k5, n5⟩, -, X5, ⟨Lc5, hQ5, l5, y5, z5⟩, st5⟩ := Xt.virtualBack hx (y := (⟨"com/example/replan/replan/model/Operator", "isLowerBound", "()Z"⟩ : MethodName)) (z := (⟨"com/example/replan/replan/model/Operator", "isLowerBound", "()Z"⟩ : MethodName)) hown (mvT hZ (hw _ (List.mem_of_getElem? (i := 8) rfl))) (mvT hZ (hw _ (List.mem_of_getElem? (i := 9) rfl))) (notFace_of_selects (args := #[]) (mvT hZ (hw _ (List.mem_of_getElem? (i := 11) rfl)))) (mvT hZ (hw _ (List.mem_of_getElem? (i := 11) rfl))) (mvT hZ (hw _ (List.mem_of_getElem? (i := 10) rfl))) (by decide) (backOf (W := 0) (rm2 l Z a0 hw [] a w4 w5 h0 n0 Z0 S_GREATER S_GREATER_OR_EQUAL) hZ (hw _ (List.mem_of_getElem? (i := 12) rfl)) (hw _ (List.mem_of_getElem? (i := 6) rfl)) (by decide) (by decide)) q5a q5c (g := (mkF m 14 #[.val (.int p1), .val (.int k), .val (.ref a), .unset, .unset, .unset] [(.ref a)])) rfl (by rw [hml]; rfl) (Steps.refl _) (argsL := []) (rest := []) (lenOf own_pd3 rfl) rfl (by show 2 * 0 + _ ≤ _; exact Nat.le_of_eq rfl) (hb hby at_14) (fun _ _ => ⟨rfl, et, (by decide : 0 + 0 ≤ _), (by decide : 0 + 0 ≤ _)⟩)
    dsimp only [Pt.U, Pt.locs, Pt.cells, Pt.slots] at X5 l5 y5 z5 st5 hQ5
    subst l5 y5 z5
    obtain ⟨rfl, N5q, e5⟩ := hQ5
    have N5 := Fr.app Nt N5q
    refine own_go (fun t_ k_ => st5.trans k_) ?_
    show own_G p.tables e below T5 (mkF m 17 #[.val (.int p1), .val (.int k), .val (.ref a), .unset, .unset, .unset] [(.int (own_lb a w4 w5))]) _
    rw [hlb]
    show own_G p.tables e below T5 (mkF m 17 #[.val (.int p1), .val (.int k), .val (.ref a), .unset, .unset, .unset] [(.int (0 : Int32))]) _
    refine own_go (fun t_ k_ => XS.istoreN X5.here hx rfl (hb hby at_17) rfl (l' := #[.val (.int p1), .val (.int k), .val (.ref a), .val (.int (0 : Int32)), .unset, .unset]) rfl k_) ?_
    show own_G p.tables e below T5 (mkF m 18 #[.val (.int p1), .val (.int k), .val (.ref a), .val (.int (0 : Int32)), .unset, .unset] []) _
    refine own_go (fun t_ k_ => XS.aloadN X5.here hx rfl (hb hby at_18) rfl rfl k_) ?_
    show own_G p.tables e below T5 (mkF m 19 #[.val (.int p1), .val (.int k), .val (.ref a), .val (.int (0 : Int32)), .unset, .unset] [(.ref a)]) _
    obtain ⟨cq6, kq6, q6a, q6b, q6c⟩ := isOf hZ e5 Eo
    obtain ⟨_, _, ⟨T6, L6, k6, n6⟩, -, X6, ⟨Lc6, hQ6, l6, y6, z6⟩, st6⟩ := X5.virtualBack hx (y := (⟨"com/example/replan/replan/model/Operator", "symbol", "()Ljava/lang/String;"⟩ : MethodName)) (z := (⟨"com/example/replan/replan/model/Operator", "symbol", "()Ljava/lang/String;"⟩ : MethodName)) hown (mvT hZ (hw _ (List.mem_of_getElem? (i := 17) rfl))) (mvT hZ (hw _ (List.mem_of_getElem? (i := 18) rfl))) (notFace_of_selects (args := #[]) (mvT hZ (hw _ (List.mem_of_getElem? (i := 20) rfl)))) (mvT hZ (hw _ (List.mem_of_getElem? (i := 20) rfl))) (mvT hZ (hw _ (List.mem_of_getElem? (i := 19) rfl))) (by decide) (backOf (W := 0) (rm3 l Z a0 hw [] a sy h0 n0 Z0 Fs) hZ (hw _ (List.mem_of_getElem? (i := 21) rfl)) (hw _ (List.mem_of_getElem? (i := 6) rfl)) (by decide) (by decide)) q6a q6c (g := (mkF m 19 #[.val (.int p1), .val (.int k), .val (.ref a), .val (.int (0 : Int32)), .unset, .unset] [(.ref a)])) rfl (by rw [hml]; rfl) (Steps.refl _) (argsL := []) (rest := []) (lenOf own_pd5 rfl) rfl (by show 2 * 0 + _ ≤ _; exact Nat.le_of_eq rfl) (hb hby at_19) (fun _ _ => ⟨rfl, e5, (by decide : 0 + 0 ≤ _), (by decide : 0 + 0 ≤ _)⟩)
    dsimp only [Pt.U, Pt.locs, Pt.cells, Pt.slots] at X6 l6 y6 z6 st6 hQ6
    subst l6 y6 z6
    obtain ⟨rfl, N6q, e6⟩ := hQ6
    have N6 := Fr.app N5 N6q
    refine own_go (fun t_ k_ => st6.trans k_) ?_
    show own_G p.tables e below T6 (mkF m 22 #[.val (.int p1), .val (.int k), .val (.ref a), .val (.int (0 : Int32)), .unset, .unset] [(.ref sy)]) _
    refine own_go (fun t_ k_ => XS.astore X6.here hx rfl (hb hby at_22) rfl rfl (l' := #[.val (.int p1), .val (.int k), .val (.ref a), .val (.int (0 : Int32)), .val (.ref sy), .unset]) rfl k_) ?_
    show own_G p.tables e below T6 (mkF m 24 #[.val (.int p1), .val (.int k), .val (.ref a), .val (.int (0 : Int32)), .val (.ref sy), .unset] []) _
    refine own_go (fun t_ k_ => XS.aload X6.here hx rfl (hb hby at_24) rfl rfl k_) ?_
    show own_G p.tables e below T6 (mkF m 26 #[.val (.int p1), .val (.int k), .val (.ref a), .val (.int (0 : Int32)), .val (.ref sy), .unset] [(.ref sy)]) _
    obtain ⟨cq7, kq7, q7a, q7b, q7c⟩ := isOf hZ e6 Es
    obtain ⟨_, _, ⟨T7, L7, k7, n7⟩, -, X7, ⟨Lc7, hQ7, l7, y7, z7⟩, st7⟩ := X6.virtualBack hx (y := (⟨"java/lang/String", "length", "()I"⟩ : MethodName)) (z := (⟨"java/lang/String", "length", "()I"⟩ : MethodName)) hown (mvT hZ (hw _ (List.mem_of_getElem? (i := 24) rfl))) (mvT hZ (hw _ (List.mem_of_getElem? (i := 25) rfl))) (notFace_of_selects (args := #[]) (mvT hZ (hw _ (List.mem_of_getElem? (i := 27) rfl)))) (mvT hZ (hw _ (List.mem_of_getElem? (i := 27) rfl))) (mvT hZ (hw _ (List.mem_of_getElem? (i := 26) rfl))) (by decide) (backOf (W := 0) (rm4 l Z a0 hw [] sy cs t cl z h0 n0 Z0 S_C hcs Es Fc Fv Ar Sz Mz) hZ (hw _ (List.mem_of_getElem? (i := 29) rfl)) (hw _ (List.mem_of_getElem? (i := 28) rfl)) (by decide) (by decide)) q7a q7c (g := (mkF m 26 #[.val (.int p1), .val (.int k), .val (.ref a), .val (.int (0 : Int32)), .val (.ref sy), .unset] [(.ref sy)])) rfl (by rw [hml]; rfl) (Steps.refl _) (argsL := []) (rest := []) (lenOf own_pd6 rfl) rfl (by show 2 * 0 + _ ≤ _; exact Nat.le_of_eq rfl) (hb hby at_26) (fun _ _ => ⟨rfl, e6, (by decide : 0 + 0 ≤ _), (by decide : 0 + 0 ≤ _)⟩)
    dsimp only [Pt.U, Pt.locs, Pt.cells, Pt.slots] at X7 l7 y7 z7 st7 hQ7
    subst l7 y7 z7
    obtain ⟨rfl, N7q, e7⟩ := hQ7
    have N7 := Fr.app N6 N7q
    refine own_go (fun t_ k_ => st7.trans k_) ?_
    show own_G p.tables e below T7 (mkF m 29 #[.val (.int p1), .val (.int k), .val (.ref a), .val (.int (0 : Int32)), .val (.ref sy), .unset] [(.int z)]) _
    refine own_go (fun t_ k_ => XS.ifNo X7.here hx rfl (hb hby at_29) rfl ((if0 _ _).trans (tlt hz).2.2.2) k_) ?_
    show own_G p.tables e below T7 (mkF m 32 #[.val (.int p1), .val (.int k), .val (.ref a), .val (.int (0 : Int32)), .val (.ref sy), .unset] []) _
    refine own_go (fun t_ k_ => XS.aload X7.here hx rfl (hb hby at_32) rfl rfl k_) ?_
    show own_G p.tables e below T7 (mkF m 34 #[.val (.int p1), .val (.int k), .val (.ref a), .val (.int (0 : Int32)), .val (.ref sy), .unset] [(.ref sy)]) _
    refine own_go (fun t_ k_ => XS.iconst X7.here hx rfl (hb hby at_34) k_) ?_
    show own_G p.tables e below T7 (mkF m 35 #[.val (.int p1), .val (.int k), .val (.ref a), .val (.int (0 : Int32)), .val (.ref sy), .unset] [(.int (0 : Int32)), (.ref sy)]) _
    obtain ⟨cq8, kq8, q8a, q8b, q8c⟩ := isOf hZ e7 Es
    obtain ⟨_, _, ⟨T8, L8, k8, n8⟩, -, X8, ⟨Lc8, hQ8, l8, y8, z8⟩, st8⟩ := X7.virtualBack hx (y := (⟨"java/lang/String", "charAt", "(I)C"⟩ : MethodName)) (z := (⟨"java/lang/String", "charAt", "(I)C"⟩ : MethodName)) hown (mvT hZ (hw _ (List.mem_of_getElem? (i := 40) rfl))) (mvT hZ (hw _ (List.mem_of_getElem? (i := 41) rfl))) (notFace_of_selects (args := #[]) (mvT hZ (hw _ (List.mem_of_getElem? (i := 43) rfl)))) (mvT hZ (hw _ (List.mem_of_getElem? (i := 43) rfl))) (mvT hZ (hw _ (List.mem_of_getElem? (i := 42) rfl))) (by decide) (backOf (W := 0) (rm6 l Z a0 hw [] sy (0 : Int32) cs rf t cl z b h0 n0 Z0 S_C hcs S_F hrf Es Fc Fv Ar Sz Mz (by decide) hz hin hat) hZ (hw _ (List.mem_of_getElem? (i := 44) rfl)) (hw _ (List.mem_of_getElem? (i := 28) rfl)) (by decide) (by decide)) q8a q8c (g := (mkF m 35 #[.val (.int p1), .val (.int k), .val (.ref a), .val (.int (0 : Int32)), .val (.ref sy), .unset] [(.int (0 : Int32)), (.ref sy)])) rfl (by rw [hml]; rfl) (Steps.refl _) (argsL := [(.int (0 : Int32))]) (rest := []) (lenOf own_pd7 rfl) rfl (by show 2 * 0 + _ ≤ _; exact Nat.le_of_eq rfl) (hb hby at_35) (fun _ _ => ⟨rfl, e7, (by decide : 0 + 0 ≤ _), (by decide : 0 + 0 ≤ _)⟩)
    dsimp only [Pt.U, Pt.locs, Pt.cells, Pt.slots] at X8 l8 y8 z8 st8 hQ8
    subst l8 y8 z8
    obtain ⟨rfl, N8q, e8⟩ := hQ8
    have N8 := Fr.app N7 N8q
    refine own_go (fun t_ k_ => st8.trans k_) ?_
    show own_G p.tables e below T8 (mkF m 38 #[.val (.int p1), .val (.int k), .val (.ref a), .val (.int (0 : Int32)), .val (.ref sy), .unset] [(.int (b &&& (255 : Int32)))]) _
    refine own_go (fun t_ k_ => XS.bipush X8.here hx rfl (hb hby at_38) k_) ?_
    show own_G p.tables e below T8 (mkF m 40 #[.val (.int p1), .val (.int k), .val (.ref a), .val (.int (0 : Int32)), .val (.ref sy), .unset] [(.int (62 : Int32)), (.int (b &&& (255 : Int32)))]) _
    refine own_go (fun t_ k_ => XS.icmpYes X8.here hx rfl (pc0 := 40) (pc' := 47) rfl (hb hby at_40) rfl (feq hb1).2 (by decide) (by decide) k_) ?_
    show own_G p.tables e below T8 (mkF m 47 #[.val (.int p1), .val (.int k), .val (.ref a), .val (.int (0 : Int32)), .val (.ref sy), .unset] []) _
    refine own_go (fun t_ k_ => XS.iconst X8.here hx rfl (hb hby at_47) k_) ?_
    show own_G p.tables e below T8 (mkF m 48 #[.val (.int p1), .val (.int k), .val (.ref a), .val (.int (0 : Int32)), .val (.ref sy), .unset] [(.int (0 : Int32))]) _
    refine own_go (fun t_ k_ => XS.istore X8.here hx rfl (hb hby at_48) rfl (l' := #[.val (.int p1), .val (.int k), .val (.ref a), .val (.int (0 : Int32)), .val (.ref sy), .val (.int (0 : Int32))]) rfl k_) ?_
    show own_G p.tables e below T8 (mkF m 50 #[.val (.int p1), .val (.int k), .val (.ref a), .val (.int (0 : Int32)), .val (.ref sy), .val (.int (0 : Int32))] []) _
    refine own_go (fun t_ k_ => XS.iloadN X8.here hx rfl (hb hby at_50) rfl k_) ?_
    show own_G p.tables e below T8 (mkF m 51 #[.val (.int p1), .val (.int k), .val (.ref a), .val (.int (0 : Int32)), .val (.ref sy), .val (.int (0 : Int32))] [(.int (0 : Int32))]) _
    refine own_go (fun t_ k_ => XS.iloadN X8.here hx rfl (hb hby at_51) rfl k_) ?_
    show own_G p.tables e below T8 (mkF m 52 #[.val (.int p1), .val (.int k), .val (.ref a), .val (.int (0 : Int32)), .val (.ref sy), .val (.int (0 : Int32))] [(.int k), (.int (0 : Int32))]) _
    refine own_go (fun t_ k_ => XS.iconst X8.here hx rfl (hb hby at_52) k_) ?_
    show own_G p.tables e below T8 (mkF m 53 #[.val (.int p1), .val (.int k), .val (.ref a), .val (.int (0 : Int32)), .val (.ref sy), .val (.int (0 : Int32))] [(.int (4 : Int32)), (.int k), (.int (0 : Int32))]) _
    refine own_go (fun t_ k_ => XS.icmpYes X8.here hx rfl (pc0 := 53) (pc' := 60) rfl (hb hby at_53) rfl (tlt hk).1 (by decide) (by decide) k_) ?_
    show own_G p.tables e below T8 (mkF m 60 #[.val (.int p1), .val (.int k), .val (.ref a), .val (.int (0 : Int32)), .val (.ref sy), .val (.int (0 : Int32))] [(.int (0 : Int32))]) _
    refine own_go (fun t_ k_ => XS.iconst X8.here hx rfl (hb hby at_60) k_) ?_
    show own_G p.tables e below T8 (mkF m 61 #[.val (.int p1), .val (.int k), .val (.ref a), .val (.int (0 : Int32)), .val (.ref sy), .val (.int (0 : Int32))] [(.int (0 : Int32)), (.int (0 : Int32))]) _
    refine own_go (fun t_ k_ => XS.icmpNo X8.here hx rfl (hb hby at_61) rfl (teq (by decide : ((0 : Int32) = (0 : Int32)))).2 k_) ?_
    show own_G p.tables e below T8 (mkF m 64 #[.val (.int p1), .val (.int k), .val (.ref a), .val (.int (0 : Int32)), .val (.ref sy), .val (.int (0 : Int32))] []) _
    refine own_go (fun t_ k_ => XS.iloadN X8.here hx rfl (hb hby at_64) rfl k_) ?_
    show own_G p.tables e below T8 (mkF m 65 #[.val (.int p1), .val (.int k), .val (.ref a), .val (.int (0 : Int32)), .val (.ref sy), .val (.int (0 : Int32))] [(.int (0 : Int32))]) _
    refine own_go (fun t_ k_ => XS.iload X8.here hx rfl (hb hby at_65) rfl k_) ?_
    show own_G p.tables e below T8 (mkF m 67 #[.val (.int p1), .val (.int k), .val (.ref a), .val (.int (0 : Int32)), .val (.ref sy), .val (.int (0 : Int32))] [(.int (0 : Int32)), (.int (0 : Int32))]) _
    refine own_go (fun t_ k_ => XS.icmpNo X8.here hx rfl (hb hby at_67) rfl (teq (by decide : ((0 : Int32) = (0 : Int32)))).2 k_) ?_
    show own_G p.tables e below T8 (mkF m 70 #[.val (.int p1), .val (.int k), .val (.ref a), .val (.int (0 : Int32)), .val (.ref sy), .val (.int (0 : Int32))] []) _
    refine own_go (fun t_ k_ => XS.iconst X8.here hx rfl (hb hby at_70) k_) ?_
    show own_G p.tables e below T8 (mkF m 71 #[.val (.int p1), .val (.int k), .val (.ref a), .val (.int (0 : Int32)), .val (.ref sy), .val (.int (0 : Int32))] [(.int (1 : Int32))]) _
    refine own_go (fun t_ k_ => XS.goto X8.here hx rfl (pc0 := 71) (pc' := 75) rfl (hb hby at_71) (by decide) (by decide) k_) ?_
    show own_G p.tables e below T8 (mkF m 75 #[.val (.int p1), .val (.int k), .val (.ref a), .val (.int (0 : Int32)), .val (.ref sy), .val (.int (0 : Int32))] [(.int (1 : Int32))]) _
    exact own_end (v := some (.int (1 : Int32))) X8 Bd.notSynchronized (fun h => by rw [Bd.returns] at h; cases h) (fun fs hr => retN X8 hx (z := (1 : Int32)) (t := .boolean) Bd.returns (by simp) (hb hby at_75) hr) e8 ⟨rfl, N8⟩ (by decide) (by decide)
  show own_G p.tables e below s₁ (mkF m 0 #[.val (.int p1), .unset, .unset, .unset, .unset, .unset] []) _
  refine own_go (fun t_ k_ => XS.iloadN X0.here hx rfl (hb hby at_0) rfl k_) ?_
  show own_G p.tables e below s₁ (mkF m 1 #[.val (.int p1), .unset, .unset, .unset, .unset, .unset] [(.int p1)]) _
  refine own_go (fun t_ k_ => X0.ldcInt hx hown (mvT hZ (hw _ (List.mem_of_getElem? (i := 0) rfl))) (g := (mkF m 1 #[.val (.int p1), .unset, .unset, .unset, .unset, .unset] [(.int p1)])) rfl (hb hby at_1) _ k_) ?_
  show own_G p.tables e below s₁ (mkF m 3 #[.val (.int p1), .unset, .unset, .unset, .unset, .unset] [(.int (2147483647 : Int32)), (.int p1)]) _
  refine own_go (fun t_ k_ => XS.iand X0.here hx rfl (hb hby at_3) rfl k_) ?_
  show own_G p.tables e below s₁ (mkF m 4 #[.val (.int p1), .unset, .unset, .unset, .unset, .unset] [(.int (p1 &&& (2147483647 : Int32)))]) _
  refine own_go (fun t_ k_ => XS.bipush X0.here hx rfl (hb hby at_4) k_) ?_
  show own_G p.tables e below s₁ (mkF m 6 #[.val (.int p1), .unset, .unset, .unset, .unset, .unset] [(.int (6 : Int32)), (.int (p1 &&& (2147483647 : Int32)))]) _
  refine own_go (fun t_ k_ => iremM X0 hx rfl (hb hby at_6) rfl (by decide) k_) ?_
  show own_G p.tables e below s₁ (mkF m 7 #[.val (.int p1), .unset, .unset, .unset, .unset, .unset] [(.int ((p1 &&& (2147483647 : Int32)) % (6 : Int32)))]) _
  refine own_go (fun t_ k_ => XS.istoreN X0.here hx rfl (hb hby at_7) rfl (l' := #[.val (.int p1), .val (.int ((p1 &&& (2147483647 : Int32)) % (6 : Int32))), .unset, .unset, .unset, .unset]) rfl k_) ?_
  show own_G p.tables e below s₁ (mkF m 8 #[.val (.int p1), .val (.int ((p1 &&& (2147483647 : Int32)) % (6 : Int32))), .unset, .unset, .unset, .unset] []) _
  rcases own_six p1 with hk | hk | hk | hk | hk | hk
  · skip
    rw [hk]
    show own_G p.tables e below s₁ (mkF m 8 #[.val (.int p1), .val (.int (0 : Int32)), .unset, .unset, .unset, .unset] []) _
    refine own_go (fun t_ k_ => XS.iloadN X0.here hx rfl (hb hby at_8) rfl k_) ?_
    show own_G p.tables e below s₁ (mkF m 9 #[.val (.int p1), .val (.int (0 : Int32)), .unset, .unset, .unset, .unset] [(.int (0 : Int32))]) _
    obtain ⟨_, _, ⟨T9, L9, k9, n9⟩, -, X9, ⟨Lc9, hQ9, l9, y9, z9⟩, st9⟩ := Jvm.LawKit.callS X0 hx (y := (⟨"com/example/replan/replan/model/OperatorIsLowerBoundPinLaw", "pick", "(I)Lcom/example/replan/replan/model/Operator;"⟩ : MethodName)) hown (mvT hZ (hw _ (List.mem_of_getElem? (i := 1) rfl))) (mvT hZ (hw _ (List.mem_of_getElem? (i := 2) rfl))) (mvT hZ (hw _ (List.mem_of_getElem? (i := 3) rfl))) (mvT hZ (hw _ (List.mem_of_getElem? (i := 4) rfl))) (by decide) (backOf (W := 0) (rm1 l Z a0 hw [] (0 : Int32) w0 w1 w2 w3 w4 w5 h0 n0 Z0 S_EQUAL S_NOT_EQUAL S_LESS S_LESS_OR_EQUAL S_GREATER S_GREATER_OR_EQUAL) hZ (hw _ (List.mem_of_getElem? (i := 4) rfl)) (hw _ (List.mem_of_getElem? (i := 3) rfl)) (by decide) (by decide)) (g := (mkF m 9 #[.val (.int p1), .val (.int (0 : Int32)), .unset, .unset, .unset, .unset] [(.int (0 : Int32))])) rfl (by rw [hml]; rfl) (argsL := [(.int (0 : Int32))]) (rest := []) (lenOf own_pd8 rfl) rfl (by show 2 * 0 + _ ≤ _; exact Nat.le_of_eq rfl) (hb hby at_9) (fun _ _ => ⟨rfl, e0, (by decide : 0 + 0 ≤ _), (by decide : 0 + 0 ≤ _)⟩)
    dsimp only [Pt.U, Pt.locs, Pt.cells, Pt.slots] at X9 l9 y9 z9 st9 hQ9
    subst l9 y9 z9
    obtain ⟨rfl, N9q, e9⟩ := hQ9
    have N9 := Fr.app N0 N9q
    refine own_go st9 ?_
    show own_G p.tables e below T9 (mkF m 12 #[.val (.int p1), .val (.int (0 : Int32)), .unset, .unset, .unset, .unset] [(.ref (own_op (0 : Int32) w0 w1 w2 w3 w4 w5))]) _
    rw [show own_op (0 : Int32) w0 w1 w2 w3 w4 w5 = w0 from rfl]
    show own_G p.tables e below T9 (mkF m 12 #[.val (.int p1), .val (.int (0 : Int32)), .unset, .unset, .unset, .unset] [(.ref w0)]) _
    exact tailN _ _ _ _ _ _ _ _ _ X9 e9 N9 O0 (by unfold own_lb; rw [if_neg n0_4, if_neg n0_5]) (by decide) (by decide) (by decide)
  · skip
    rw [hk]
    show own_G p.tables e below s₁ (mkF m 8 #[.val (.int p1), .val (.int (1 : Int32)), .unset, .unset, .unset, .unset] []) _
    refine own_go (fun t_ k_ => XS.iloadN X0.here hx rfl (hb hby at_8) rfl k_) ?_
    show own_G p.tables e below s₁ (mkF m 9 #[.val (.int p1), .val (.int (1 : Int32)), .unset, .unset, .unset, .unset] [(.int (1 : Int32))]) _
    obtain ⟨_, _, ⟨T10, L10, k10, n10⟩, -, X10, ⟨Lc10, hQ10, l10, y10, z10⟩, st10⟩ := Jvm.LawKit.callS X0 hx (y := (⟨"com/example/replan/replan/model/OperatorIsLowerBoundPinLaw", "pick", "(I)Lcom/example/replan/replan/model/Operator;"⟩ : MethodName)) hown (mvT hZ (hw _ (List.mem_of_getElem? (i := 1) rfl))) (mvT hZ (hw _ (List.mem_of_getElem? (i := 2) rfl))) (mvT hZ (hw _ (List.mem_of_getElem? (i := 3) rfl))) (mvT hZ (hw _ (List.mem_of_getElem? (i := 4) rfl))) (by decide) (backOf (W := 0) (rm1 l Z a0 hw [] (1 : Int32) w0 w1 w2 w3 w4 w5 h0 n0 Z0 S_EQUAL S_NOT_EQUAL S_LESS S_LESS_OR_EQUAL S_GREATER S_GREATER_OR_EQUAL) hZ (hw _ (List.mem_of_getElem? (i := 4) rfl)) (hw _ (List.mem_of_getElem? (i := 3) rfl)) (by decide) (by decide)) (g := (mkF m 9 #[.val (.int p1), .val (.int (1 : Int32)), .unset, .unset, .unset, .unset] [(.int (1 : Int32))])) rfl (by rw [hml]; rfl) (argsL := [(.int (1 : Int32))]) (rest := []) (lenOf own_pd8 rfl) rfl (by show 2 * 0 + _ ≤ _; exact Nat.le_of_eq rfl) (hb hby at_9) (fun _ _ => ⟨rfl, e0, (by decide : 0 + 0 ≤ _), (by decide : 0 + 0 ≤ _)⟩)
    dsimp only [Pt.U, Pt.locs, Pt.cells, Pt.slots] at X10 l10 y10 z10 st10 hQ10
    subst l10 y10 z10
    obtain ⟨rfl, N10q, e10⟩ := hQ10
    have N10 := Fr.app N0 N10q
    refine own_go st10 ?_
    show own_G p.tables e below T10 (mkF m 12 #[.val (.int p1), .val (.int (1 : Int32)), .unset, .unset, .unset, .unset] [(.ref (own_op (1 : Int32) w0 w1 w2 w3 w4 w5))]) _
    rw [show own_op (1 : Int32) w0 w1 w2 w3 w4 w5 = w1 from rfl]
    show own_G p.tables e below T10 (mkF m 12 #[.val (.int p1), .val (.int (1 : Int32)), .unset, .unset, .unset, .unset] [(.ref w1)]) _
    exact tailN _ _ _ _ _ _ _ _ _ X10 e10 N10 O1 (by unfold own_lb; rw [if_neg n1_4, if_neg n1_5]) (by decide) (by decide) (by decide)
  · skip
    rw [hk]
    show own_G p.tables e below s₁ (mkF m 8 #[.val (.int p1), .val (.int (2 : Int32)), .unset, .unset, .unset, .unset] []) _
    refine own_go (fun t_ k_ => XS.iloadN X0.here hx rfl (hb hby at_8) rfl k_) ?_
    show own_G p.tables e below s₁ (mkF m 9 #[.val (.int p1), .val (.int (2 : Int32)), .unset, .unset, .unset, .unset] [(.int (2 : Int32))]) _
    obtain ⟨_, _, ⟨T11, L11, k11, n11⟩, -, X11, ⟨Lc11, hQ11, l11, y11, z11⟩, st11⟩ := Jvm.LawKit.callS X0 hx (y := (⟨"com/example/replan/replan/model/OperatorIsLowerBoundPinLaw", "pick", "(I)Lcom/example/replan/replan/model/Operator;"⟩ : MethodName)) hown (mvT hZ (hw _ (List.mem_of_getElem? (i := 1) rfl))) (mvT hZ (hw _ (List.mem_of_getElem? (i := 2) rfl))) (mvT hZ (hw _ (List.mem_of_getElem? (i := 3) rfl))) (mvT hZ (hw _ (List.mem_of_getElem? (i := 4) rfl))) (by decide) (backOf (W := 0) (rm1 l Z a0 hw [] (2 : Int32) w0 w1 w2 w3 w4 w5 h0 n0 Z0 S_EQUAL S_NOT_EQUAL S_LESS S_LESS_OR_EQUAL S_GREATER S_GREATER_OR_EQUAL) hZ (hw _ (List.mem_of_getElem? (i := 4) rfl)) (hw _ (List.mem_of_getElem? (i := 3) rfl)) (by decide) (by decide)) (g := (mkF m 9 #[.val (.int p1), .val (.int (2 : Int32)), .unset, .unset, .unset, .unset] [(.int (2 : Int32))])) rfl (by rw [hml]; rfl) (argsL := [(.int (2 : Int32))]) (rest := []) (lenOf own_pd8 rfl) rfl (by show 2 * 0 + _ ≤ _; exact Nat.le_of_eq rfl) (hb hby at_9) (fun _ _ => ⟨rfl, e0, (by decide : 0 + 0 ≤ _), (by decide : 0 + 0 ≤ _)⟩)
    dsimp only [Pt.U, Pt.locs, Pt.cells, Pt.slots] at X11 l11 y11 z11 st11 hQ11
    subst l11 y11 z11
    obtain ⟨rfl, N11q, e11⟩ := hQ11
    have N11 := Fr.app N0 N11q
    refine own_go st11 ?_
    show own_G p.tables e below T11 (mkF m 12 #[.val (.int p1), .val (.int (2 : Int32)), .unset, .unset, .unset, .unset] [(.ref (own_op (2 : Int32) w0 w1 w2 w3 w4 w5))]) _
    rw [show own_op (2 : Int32) w0 w1 w2 w3 w4 w5 = w2 from rfl]
    show own_G p.tables e below T11 (mkF m 12 #[.val (.int p1), .val (.int (2 : Int32)), .unset, .unset, .unset, .unset] [(.ref w2)]) _
    exact tailN _ _ _ _ _ _ _ _ _ X11 e11 N11 O2 (by unfold own_lb; rw [if_neg n2_4, if_neg n2_5]) (by decide) (by decide) (by decide)
  · skip
    rw [hk]
    show own_G p.tables e below s₁ (mkF m 8 #[.val (.int p1), .val (.int (3 : Int32)), .unset, .unset, .unset, .unset] []) _
    refine own_go (fun t_ k_ => XS.iloadN X0.here hx rfl (hb hby at_8) rfl k_) ?_
    show own_G p.tables e below s₁ (mkF m 9 #[.val (.int p1), .val (.int (3 : Int32)), .unset, .unset, .unset, .unset] [(.int (3 : Int32))]) _
    obtain ⟨_, _, ⟨T12, L12, k12, n12⟩, -, X12, ⟨Lc12, hQ12, l12, y12, z12⟩, st12⟩ := Jvm.LawKit.callS X0 hx (y := (⟨"com/example/replan/replan/model/OperatorIsLowerBoundPinLaw", "pick", "(I)Lcom/example/replan/replan/model/Operator;"⟩ : MethodName)) hown (mvT hZ (hw _ (List.mem_of_getElem? (i := 1) rfl))) (mvT hZ (hw _ (List.mem_of_getElem? (i := 2) rfl))) (mvT hZ (hw _ (List.mem_of_getElem? (i := 3) rfl))) (mvT hZ (hw _ (List.mem_of_getElem? (i := 4) rfl))) (by decide) (backOf (W := 0) (rm1 l Z a0 hw [] (3 : Int32) w0 w1 w2 w3 w4 w5 h0 n0 Z0 S_EQUAL S_NOT_EQUAL S_LESS S_LESS_OR_EQUAL S_GREATER S_GREATER_OR_EQUAL) hZ (hw _ (List.mem_of_getElem? (i := 4) rfl)) (hw _ (List.mem_of_getElem? (i := 3) rfl)) (by decide) (by decide)) (g := (mkF m 9 #[.val (.int p1), .val (.int (3 : Int32)), .unset, .unset, .unset, .unset] [(.int (3 : Int32))])) rfl (by rw [hml]; rfl) (argsL := [(.int (3 : Int32))]) (rest := []) (lenOf own_pd8 rfl) rfl (by show 2 * 0 + _ ≤ _; exact Nat.le_of_eq rfl) (hb hby at_9) (fun _ _ => ⟨rfl, e0, (by decide : 0 + 0 ≤ _), (by decide : 0 + 0 ≤ _)⟩)
    dsimp only [Pt.U, Pt.locs, Pt.cells, Pt.slots] at X12 l12 y12 z12 st12 hQ12
    subst l12 y12 z12
    obtain ⟨rfl, N12q, e12⟩ := hQ12
    have N12 := Fr.app N0 N12q
    refine own_go st12 ?_
    show own_G p.tables e below T12 (mkF m 12 #[.val (.int p1), .val (.int (3 : Int32)), .unset, .unset, .unset, .unset] [(.ref (own_op (3 : Int32) w0 w1 w2 w3 w4 w5))]) _
    rw [show own_op (3 : Int32) w0 w1 w2 w3 w4 w5 = w3 from rfl]
    show own_G p.tables e below T12 (mkF m 12 #[.val (.int p1), .val (.int (3 : Int32)), .unset, .unset, .unset, .unset] [(.ref w3)]) _
    exact tailN _ _ _ _ _ _ _ _ _ X12 e12 N12 O3 (by unfold own_lb; rw [if_neg n3_4, if_neg n3_5]) (by decide) (by decide) (by decide)
  · skip
    rw [hk]
    show own_G p.tables e below s₁ (mkF m 8 #[.val (.int p1), .val (.int (4 : Int32)), .unset, .unset, .unset, .unset] []) _
    refine own_go (fun t_ k_ => XS.iloadN X0.here hx rfl (hb hby at_8) rfl k_) ?_
    show own_G p.tables e below s₁ (mkF m 9 #[.val (.int p1), .val (.int (4 : Int32)), .unset, .unset, .unset, .unset] [(.int (4 : Int32))]) _
    obtain ⟨_, _, ⟨T13, L13, k13, n13⟩, -, X13, ⟨Lc13, hQ13, l13, y13, z13⟩, st13⟩ := Jvm.LawKit.callS X0 hx (y := (⟨"com/example/replan/replan/model/OperatorIsLowerBoundPinLaw", "pick", "(I)Lcom/example/replan/replan/model/Operator;"⟩ : MethodName)) hown (mvT hZ (hw _ (List.mem_of_getElem? (i := 1) rfl))) (mvT hZ (hw _ (List.mem_of_getElem? (i := 2) rfl))) (mvT hZ (hw _ (List.mem_of_getElem? (i := 3) rfl))) (mvT hZ (hw _ (List.mem_of_getElem? (i := 4) rfl))) (by decide) (backOf (W := 0) (rm1 l Z a0 hw [] (4 : Int32) w0 w1 w2 w3 w4 w5 h0 n0 Z0 S_EQUAL S_NOT_EQUAL S_LESS S_LESS_OR_EQUAL S_GREATER S_GREATER_OR_EQUAL) hZ (hw _ (List.mem_of_getElem? (i := 4) rfl)) (hw _ (List.mem_of_getElem? (i := 3) rfl)) (by decide) (by decide)) (g := (mkF m 9 #[.val (.int p1), .val (.int (4 : Int32)), .unset, .unset, .unset, .unset] [(.int (4 : Int32))])) rfl (by rw [hml]; rfl) (argsL := [(.int (4 : Int32))]) (rest := []) (lenOf own_pd8 rfl) rfl (by show 2 * 0 + _ ≤ _; exact Nat.le_of_eq rfl) (hb hby at_9) (fun _ _ => ⟨rfl, e0, (by decide : 0 + 0 ≤ _), (by decide : 0 + 0 ≤ _)⟩)
    dsimp only [Pt.U, Pt.locs, Pt.cells, Pt.slots] at X13 l13 y13 z13 st13 hQ13
    subst l13 y13 z13
    obtain ⟨rfl, N13q, e13⟩ := hQ13
    have N13 := Fr.app N0 N13q
    refine own_go st13 ?_
    show own_G p.tables e below T13 (mkF m 12 #[.val (.int p1), .val (.int (4 : Int32)), .unset, .unset, .unset, .unset] [(.ref (own_op (4 : Int32) w0 w1 w2 w3 w4 w5))]) _
    rw [show own_op (4 : Int32) w0 w1 w2 w3 w4 w5 = w4 from rfl]
    show own_G p.tables e below T13 (mkF m 12 #[.val (.int p1), .val (.int (4 : Int32)), .unset, .unset, .unset, .unset] [(.ref w4)]) _
    exact tailY _ _ _ _ _ _ _ _ _ X13 e13 N13 O4 (by simp [own_lb]) (by decide) (by decide) (by decide)
  · skip
    rw [hk]
    show own_G p.tables e below s₁ (mkF m 8 #[.val (.int p1), .val (.int (5 : Int32)), .unset, .unset, .unset, .unset] []) _
    refine own_go (fun t_ k_ => XS.iloadN X0.here hx rfl (hb hby at_8) rfl k_) ?_
    show own_G p.tables e below s₁ (mkF m 9 #[.val (.int p1), .val (.int (5 : Int32)), .unset, .unset, .unset, .unset] [(.int (5 : Int32))]) _
    obtain ⟨_, _, ⟨T14, L14, k14, n14⟩, -, X14, ⟨Lc14, hQ14, l14, y14, z14⟩, st14⟩ := Jvm.LawKit.callS X0 hx (y := (⟨"com/example/replan/replan/model/OperatorIsLowerBoundPinLaw", "pick", "(I)Lcom/example/replan/replan/model/Operator;"⟩ : MethodName)) hown (mvT hZ (hw _ (List.mem_of_getElem? (i := 1) rfl))) (mvT hZ (hw _ (List.mem_of_getElem? (i := 2) rfl))) (mvT hZ (hw _ (List.mem_of_getElem? (i := 3) rfl))) (mvT hZ (hw _ (List.mem_of_getElem? (i := 4) rfl))) (by decide) (backOf (W := 0) (rm1 l Z a0 hw [] (5 : Int32) w0 w1 w2 w3 w4 w5 h0 n0 Z0 S_EQUAL S_NOT_EQUAL S_LESS S_LESS_OR_EQUAL S_GREATER S_GREATER_OR_EQUAL) hZ (hw _ (List.mem_of_getElem? (i := 4) rfl)) (hw _ (List.mem_of_getElem? (i := 3) rfl)) (by decide) (by decide)) (g := (mkF m 9 #[.val (.int p1), .val (.int (5 : Int32)), .unset, .unset, .unset, .unset] [(.int (5 : Int32))])) rfl (by rw [hml]; rfl) (argsL := [(.int (5 : Int32))]) (rest := []) (lenOf own_pd8 rfl) rfl (by show 2 * 0 + _ ≤ _; exact Nat.le_of_eq rfl) (hb hby at_9) (fun _ _ => ⟨rfl, e0, (by decide : 0 + 0 ≤ _), (by decide : 0 + 0 ≤ _)⟩)
    dsimp only [Pt.U, Pt.locs, Pt.cells, Pt.slots] at X14 l14 y14 z14 st14 hQ14
    subst l14 y14 z14
    obtain ⟨rfl, N14q, e14⟩ := hQ14
    have N14 := Fr.app N0 N14q
    refine own_go st14 ?_
    show own_G p.tables e below T14 (mkF m 12 #[.val (.int p1), .val (.int (5 : Int32)), .unset, .unset, .unset, .unset] [(.ref (own_op (5 : Int32) w0 w1 w2 w3 w4 w5))]) _
    rw [show own_op (5 : Int32) w0 w1 w2 w3 w4 w5 = w5 from rfl]
    show own_G p.tables e below T14 (mkF m 12 #[.val (.int p1), .val (.int (5 : Int32)), .unset, .unset, .unset, .unset] [(.ref w5)]) _
    exact tailY _ _ _ _ _ _ _ _ _ X14 e14 N14 O5 (by simp [own_lb]) (by decide) (by decide) (by decide)
set_option maxRecDepth 65536 in
set_option maxHeartbeats 40000000 in
theorem comes_1 {Post : Tables → Env → Array Value → State → Outcome → State → Prop} (hpost : ∀ tb e args s v u, (limb_1_1.after args s (.returned v) u = true ∧ limb_1_2.after args s (.returned v) u = true ∧ True) → FrameEnd s (.returned v) u (Jvm.fieldLocs frame_1_writes args s ++ Jvm.arrayLocs frame_1_arrays args s ++ Jvm.staticLocs frame_1_statics s) 0 0 → Post tb e args s (.returned v) u) :
    ArmFor flags0 classFile x code maxLocals ret World_1 tables_1 room_1 Calls_1 rest_1 Pre_1 Post := by
  intro l hfl _ _ p e ha hc hk s m args below hf hA hF happ hP
  obtain ⟨hcalls, hrest, hpre⟩ := hP
  obtain ⟨-, -, -, hnamed, -, -, -, hat⟩ := (Spec.applies_iff hf).mp happ
  obtain ⟨hg, hn⟩ := and_e (Cond.before_iff.mp (show (Jvm.Cond.and given_1 narrow_1).before args s = true from hpre))
  obtain ⟨g0, gr0⟩ := and_e hg
  obtain ⟨w0, rfl⟩ : ∃ w0 : Value, args = #[w0] := by
    have hs : args.size = 1 := by simpa [Cond.value, given_1] using g0
    obtain ⟨L⟩ := args
    match L, hs with
    | [w0], _ => exact ⟨w0, rfl⟩
  have hw := fun d (hd : d ∈ tables_1) => atoms_spec (ws := Jvm.Cond.code x code maxLocals ret :: tables_1) hat d (List.mem_cons_of_mem _ hd)
  have hfit : Fit s := fun {y c} hc i hi => by
    obtain ⟨ha, rfl⟩ := Array.getElem?_eq_some_iff.mp hc
    have q := List.all_eq_true.mp ((Array.all_eq_true_iff_forall_mem.mp hF) _ (Array.getElem_mem ha)) i (List.mem_range.mpr hi)
    simpa [Array.getElem?_eq_getElem hi] using q
  obtain ⟨hsets, hown0⟩ := atoms_of _ (rest_1_c_eq ▸ (show rest_1_c.before _ s = true from hrest))
  have hr0 := Cond.before_iff.mp hown0
  obtain ⟨i0, ei0⟩ := is_v gr0
  obtain rfl : w0 = (.int i0) := Option.some.inj ei0
  obtain ⟨x0, hn⟩ := and_e hn
  obtain ⟨x1, hn⟩ := and_e hn
  obtain ⟨x2, hn⟩ := and_e hn
  obtain ⟨x3, hn⟩ := and_e hn
  obtain ⟨x4, hn⟩ := and_e hn
  obtain ⟨x5, hn⟩ := and_e hn
  obtain ⟨x6, hn⟩ := and_e hn
  obtain ⟨x7, hn⟩ := and_e hn
  obtain ⟨x8, hn⟩ := and_e hn
  obtain ⟨x9, hn⟩ := and_e hn
  obtain ⟨x10, hn⟩ := and_e hn
  obtain ⟨x11, hn⟩ := and_e hn
  obtain ⟨x12, hn⟩ := and_e hn
  obtain ⟨x13, hn⟩ := and_e hn
  obtain ⟨x14, hn⟩ := and_e hn
  obtain ⟨x15, hn⟩ := and_e hn
  obtain ⟨x16, hn⟩ := and_e hn
  obtain ⟨x17, hn⟩ := and_e hn
  obtain ⟨x18, hn⟩ := and_e hn
  obtain ⟨x19, hn⟩ := and_e hn
  obtain ⟨x20, hn⟩ := and_e hn
  obtain ⟨x21, hn⟩ := and_e hn
  obtain ⟨x22, hn⟩ := and_e hn
  obtain ⟨x23, hn⟩ := and_e hn
  obtain ⟨x24, hn⟩ := and_e hn
  obtain ⟨x25, hn⟩ := and_e hn
  obtain ⟨x26, hn⟩ := and_e hn
  obtain ⟨x27, hn⟩ := and_e hn
  obtain ⟨x28, hn⟩ := and_e hn
  obtain ⟨x29, hn⟩ := and_e hn
  obtain ⟨x30, hn⟩ := and_e hn
  obtain ⟨x31, hn⟩ := and_e hn
  obtain ⟨x32, hn⟩ := and_e hn
  obtain ⟨x33, hn⟩ := and_e hn
  obtain ⟨x34, hn⟩ := and_e hn
  obtain ⟨x35, hn⟩ := and_e hn
  obtain ⟨x36, hn⟩ := and_e hn
  obtain ⟨x37, hn⟩ := and_e hn
  obtain ⟨x38, hn⟩ := and_e hn
  obtain ⟨x39, hn⟩ := and_e hn
  obtain ⟨x40, hn⟩ := and_e hn
  obtain ⟨x41, hn⟩ := and_e hn
  obtain ⟨x42, hn⟩ := and_e hn
  obtain ⟨x43, hn⟩ := and_e hn
  have x44 := hn
  obtain ⟨w0, y0, t0, c0, v0, O0⟩ := own_mk x0 x6 x7 x8 x9 x10 (by decide)
  have S_EQUAL := Sta.start v0 (Or.inr ⟨(hw _ (List.mem_of_getElem? (i := 6) rfl)), (hw _ (List.mem_of_getElem? (i := 7) rfl))⟩)
  have o0 := own_field v0 x2
  obtain ⟨w1, y1, t1, c1, v1, O1⟩ := own_mk x25 x27 x28 x29 x30 x31 (by decide)
  have S_NOT_EQUAL := Sta.start v1 (Or.inr ⟨(hw _ (List.mem_of_getElem? (i := 6) rfl)), (hw _ (List.mem_of_getElem? (i := 67) rfl))⟩)
  have o1 := own_field v1 x26
  obtain ⟨w2, y2, t2, c2, v2, O2⟩ := own_mk x18 x20 x21 x22 x23 x24 (by decide)
  have S_LESS := Sta.start v2 (Or.inr ⟨(hw _ (List.mem_of_getElem? (i := 6) rfl)), (hw _ (List.mem_of_getElem? (i := 65) rfl))⟩)
  have o2 := own_field v2 x19
  obtain ⟨w3, y3, t3, c3, v3, O3⟩ := own_mk x11 x13 x14 x15 x16 x17 (by decide)
  have S_LESS_OR_EQUAL := Sta.start v3 (Or.inr ⟨(hw _ (List.mem_of_getElem? (i := 6) rfl)), (hw _ (List.mem_of_getElem? (i := 63) rfl))⟩)
  have o3 := own_field v3 x12
  obtain ⟨w4, y4, t4, c4, v4, O4⟩ := own_mk x1 x37 x38 x39 x40 x41 (by decide)
  have S_GREATER := Sta.start v4 (Or.inr ⟨(hw _ (List.mem_of_getElem? (i := 6) rfl)), (hw _ (List.mem_of_getElem? (i := 14) rfl))⟩)
  have o4 := own_field v4 x3
  obtain ⟨w5, y5, t5, c5, v5, O5⟩ := own_mk x4 x32 x33 x34 x35 x36 (by decide)
  have S_GREATER_OR_EQUAL := Sta.start v5 (Or.inr ⟨(hw _ (List.mem_of_getElem? (i := 6) rfl)), (hw _ (List.mem_of_getElem? (i := 16) rfl))⟩)
  have o5 := own_field v5 x5
  obtain ⟨cs, ec⟩ := is_v (Cond.before_iff.mp (hsets _ (List.mem_of_getElem? (i := 1) rfl)))
  have S_C := Sta.start ec (Or.inl (hsets _ (List.mem_of_getElem? (i := 0) rfl)))
  have hcs : ¬ cs = 0 := fun q => by
    have z := not_v (Cond.before_iff.mp (hsets _ (List.mem_of_getElem? (i := 2) rfl)))
    rw [eq_i ec (Term.int_eval (0)) (congrArg Value.int q)] at z; cases z
  obtain ⟨rf, er, hrf⟩ := isR_v (Cond.before_iff.mp (hsets _ (List.mem_of_getElem? (i := 8) rfl)))
  have S_F := Sta.start er (Or.inl (hsets _ (List.mem_of_getElem? (i := 7) rfl)))
  obtain ⟨n, o, h1, h2, h3, _, L, rfl, ⟨rfl, N⟩, hq⟩ := rm0 l s _ hw tables_1 i0 cs rf w0 w1 w2 w3 w4 w5 y0 t0 c0 y1 t1 c1 y2 t2 c2 y3 t3 c3 y4 t4 c4 y5 t5 c5 s.heap s.heap.size (Nat.le_refl _) S_C hcs S_F hrf S_EQUAL S_NOT_EQUAL S_LESS S_LESS_OR_EQUAL S_GREATER S_GREATER_OR_EQUAL O0 O1 O2 O3 O4 O5 (own_apart o0 o4 (by decide)) (own_apart o0 o5 (by decide)) (own_apart o1 o4 (by decide)) (own_apart o1 o5 (by decide)) (own_apart o2 o4 (by decide)) (own_apart o2 o5 (by decide)) (own_apart o3 o4 (by decide)) (own_apart o3 o5 (by decide)) p e ha hc hk s m _ below hf ((Spec.applies_iff_loose hf).mp happ).1 ⟨rfl, State.Warmed39.refl s, rfl⟩ trivial
  refine ⟨n, _, h1, h2, h3, hpost _ _ _ _ _ _ ⟨Cond.after_iff.mpr rfl, Cond.after_iff.mpr (eq_i res_at (Term.int_eval (1)) rfl), trivial⟩ ⟨hq.1, hq.2.1, (hq.2.2.sift fun y hy => Or.inr (N y hy)).mono (by decide) (by decide)⟩⟩
theorem main_1_1 : Claimed_1_1 := comes_1 fun _ _ _ _ _ _ h hF => ⟨h.1, hF⟩
theorem main_1_2 : Claimed_1_2 := comes_1 fun _ _ _ _ _ _ h hF => ⟨h.2.1, hF⟩
end Jvm.Pilot.@@N@@
namespace Jvm.Pilot.@@N@@
open Jvm Jvm.ClassFile Sem Op Lib Jvm.Free Jvm.Stand Jvm.Pilot.@@N@@.Jvm.D
/-! MADE BY PROGRAM (witnessworld.py) out of the Statement's table words and the real class files: 18 classes; the members and pool entries that the words name. The judged class is class 1, her method 2. -/
namespace start1
open Jvm.ClassFile
def u (s : String) : CpInfo := .utf8 (stringToUtf16 s)
/-- a pool by its gaps: so many unusable entries, then the entry; so many at the end -/
def gap : Nat → List CpInfo → List CpInfo
  | 0, r => r
  | n + 1, r => .unusable :: gap n r
def poolList (es : List (Nat × CpInfo)) (last : Nat) : List CpInfo := es.foldr (fun e r => gap e.1 (e.2 :: r)) (gap last [])
def pool (es : List (Nat × CpInfo)) (last : Nat) : Array CpInfo := ⟨poolList es last⟩
def fileOf (pool : Array CpInfo) (this : Nat) (attrs : Array Attribute := #[]) (ms : Array MethodInfo := #[]) (fl : Nat := 33) (sup : Nat := 0) (ifs : Array Nat := #[]) (fds : Array FieldInfo := #[]) : ClassFile where
  minorVersion := 0
  majorVersion := 65
  constantPool := pool
  accessFlags := fl
  thisClass := this
  superClass := sup
  interfaces := ifs
  fields := fds
  methods := ms
  attributes := attrs
def plain (name : String) (sup : Option ClassId) : Class where
  name := name
  kind := .ordinary
  loader := none
  accessFlags := 33
  super := sup
  interfaces := #[]
  cf := none
  fields := #[]
  methods := #[]
  instanceTypes := #[]
  staticTypes := #[]
  resolved := #[]
  callSites := []
  init := .initialized
  statics := none
  mirror := none

def pool0 : Array CpInfo := pool [(5, u "<init>"), (0, u "()V"), (1, .class_ 10), (1, u "java/lang/Object")] 113

def k0m0 : Method := { name := "<init>", desc := "()V", sig := { parameters := [], returnType := none }, accessFlags := 1, code := none }
/-- java/lang/Object -/
def k0 : Class := { plain "java/lang/Object" none with
  accessFlags := 33
  interfaces := #[]
  cf := some (fileOf pool0 8 #[] #[{ accessFlags := 1, nameIndex := 5, descriptorIndex := 6, attributes := #[] }] 33 0 #[] #[])
  fields := #[]
  methods := #[k0m0]
  instanceTypes := #[]
  staticTypes := #[]
  resolved := Array.replicate 124 none
  statics := none }

def pool1 : Array CpInfo := pool [(2, .class_ 4), (1, u "java/lang/Object"), (0, u "<init>"), (0, u "()V"), (0, .fieldref 8 9), (0, .class_ 10), (0, .nameAndType 11 12), (0, u "com/example/replan/replan/model/Operator"), (0, u "EQUAL"), (0, u "Lcom/example/replan/replan/model/Operator;"), (0, .fieldref 8 14), (0, .nameAndType 15 12), (0, u "NOT_EQUAL"), (0, .fieldref 8 17), (0, .nameAndType 18 12), (0, u "LESS"), (0, .fieldref 8 20), (0, .nameAndType 21 12), (0, u "LESS_OR_EQUAL"), (0, .fieldref 8 23), (0, .nameAndType 24 12), (0, u "GREATER"), (0, .fieldref 8 26), (0, .nameAndType 27 12), (0, u "GREATER_OR_EQUAL"), (0, .integer 2147483647), (0, .methodref 30 31), (0, .class_ 32), (0, .nameAndType 33 34), (0, u "com/example/replan/replan/model/OperatorIsLowerBoundPinLaw"), (0, u "pick"), (0, u "(I)Lcom/example/replan/replan/model/Operator;"), (0, .methodref 8 36), (0, .nameAndType 37 38), (0, u "isLowerBound"), (0, u "()Z"), (0, .methodref 8 40), (0, .nameAndType 41 42), (0, u "symbol"), (0, u "()Ljava/lang/String;"), (0, .methodref 44 45), (0, .class_ 46), (0, .nameAndType 47 48), (0, u "java/lang/String"), (0, u "length"), (0, u "()I"), (0, .methodref 44 50), (0, .nameAndType 51 52), (0, u "charAt"), (0, u "(I)C"), (3, u "law"), (0, u "(I)Z")] 2

def k1m0 : Method := { name := "<init>", desc := "()V", sig := { parameters := [], returnType := none }, accessFlags := 1, code := none }
def k1c1 : Code := { maxStack := 2, maxLocals := 1, code := method_2_code, exceptionTable := #[], attributes := #[] }
def k1m1 : Method := { name := "pick", desc := "(I)Lcom/example/replan/replan/model/Operator;", sig := { parameters := [.int], returnType := some (.object "com/example/replan/replan/model/Operator") }, accessFlags := 10, code := some k1c1 }
def k1c2 : Code := { maxStack := 3, maxLocals := 6, code := code, exceptionTable := #[], attributes := #[] }
def k1m2 : Method := { name := "law", desc := "(I)Z", sig := { parameters := [.int], returnType := some .boolean }, accessFlags := 9, code := some k1c2 }
/-- com/example/replan/replan/model/OperatorIsLowerBoundPinLaw -/
def k1 : Class := { plain "com/example/replan/replan/model/OperatorIsLowerBoundPinLaw" (some 0) with
  accessFlags := 49
  interfaces := #[]
  cf := some (fileOf pool1 30 #[] #[{ accessFlags := 1, nameIndex := 5, descriptorIndex := 6, attributes := #[] }, { accessFlags := 10, nameIndex := 33, descriptorIndex := 34, attributes := #[] }, { accessFlags := 9, nameIndex := 56, descriptorIndex := 57, attributes := #[] }] 49 2 #[] #[])
  fields := #[]
  methods := #[k1m0, k1m1, k1m2]
  instanceTypes := #[]
  staticTypes := #[]
  resolved := Array.replicate 60 none
  statics := none }

def pool2 : Array CpInfo := pool [(1, .class_ 2), (0, u "java/lang/constant/Constable"), (0, .class_ 4), (0, u "java/lang/Object")] 6

/-- java/lang/constant/Constable -/
def k2 : Class := { plain "java/lang/constant/Constable" (some 0) with
  accessFlags := 1537
  interfaces := #[]
  cf := some (fileOf pool2 1 #[] #[] 1537 3 #[] #[])
  fields := #[]
  methods := #[]
  instanceTypes := #[]
  staticTypes := #[]
  resolved := Array.replicate 11 none
  statics := none }

def pool3 : Array CpInfo := pool [(1, .class_ 2), (0, u "java/lang/Comparable"), (0, .class_ 4), (0, u "java/lang/Object")] 7

/-- java/lang/Comparable -/
def k3 : Class := { plain "java/lang/Comparable" (some 0) with
  accessFlags := 1537
  interfaces := #[]
  cf := some (fileOf pool3 1 #[] #[] 1537 3 #[] #[])
  fields := #[]
  methods := #[]
  instanceTypes := #[]
  staticTypes := #[]
  resolved := Array.replicate 12 none
  statics := none }

def pool4 : Array CpInfo := pool [(1, .class_ 2), (0, u "java/io/Serializable"), (0, .class_ 4), (0, u "java/lang/Object")] 2

/-- java/io/Serializable -/
def k4 : Class := { plain "java/io/Serializable" (some 0) with
  accessFlags := 1537
  interfaces := #[]
  cf := some (fileOf pool4 1 #[] #[] 1537 3 #[] #[])
  fields := #[]
  methods := #[]
  instanceTypes := #[]
  staticTypes := #[]
  resolved := Array.replicate 7 none
  statics := none }

def pool5 : Array CpInfo := pool [(2, .class_ 4), (1, u "java/lang/Enum"), (0, u "name"), (0, u "Ljava/lang/String;"), (2, u "ordinal"), (0, u "I"), (1, .class_ 14), (1, u "java/lang/Object"), (4, u "hash"), (86, .class_ 108), (1, u "java/lang/Enum$EnumDesc"), (2, .class_ 112), (0, u "java/lang/constant/Constable"), (0, .class_ 114), (0, u "java/lang/Comparable"), (0, .class_ 116), (0, u "java/io/Serializable")] 87

/-- java/lang/Enum -/
def k5 : Class := { plain "java/lang/Enum" (some 0) with
  accessFlags := 1057
  interfaces := #[2, 3, 4]
  cf := some (fileOf pool5 2 #[.nestMembers #[106]] #[] 1057 12 #[111, 113, 115] #[{ accessFlags := 18, nameIndex := 5, descriptorIndex := 6, attributes := #[] }, { accessFlags := 18, nameIndex := 9, descriptorIndex := 10, attributes := #[] }, { accessFlags := 2, nameIndex := 19, descriptorIndex := 10, attributes := #[] }])
  fields := #[{ name := "name", type := (.object "java/lang/String"), accessFlags := 18, slot := 0, constantValue := 0 }, { name := "ordinal", type := .int, accessFlags := 18, slot := 1, constantValue := 0 }, { name := "hash", type := .int, accessFlags := 2, slot := 2, constantValue := 0 }]
  methods := #[]
  instanceTypes := #[(.object "java/lang/String"), .int, .int]
  staticTypes := #[]
  resolved := Array.replicate 204 none
  statics := none }

def pool6 : Array CpInfo := pool [(1, .class_ 2), (0, u "com/example/replan/replan/model/Operator"), (2, u "EQUAL"), (0, u "Lcom/example/replan/replan/model/Operator;"), (2, u "NOT_EQUAL"), (2, u "LESS"), (2, u "LESS_OR_EQUAL"), (0, .fieldref 1 17), (0, .nameAndType 18 6), (0, u "GREATER"), (0, .fieldref 1 20), (0, .nameAndType 21 6), (0, u "GREATER_OR_EQUAL"), (2, u "$VALUES"), (0, u "[Lcom/example/replan/replan/model/Operator;"), (6, .class_ 34), (1, u "java/lang/Enum"), (6, .fieldref 1 42), (0, .nameAndType 43 44), (0, u "symbol"), (0, u "Ljava/lang/String;"), (64, u "()Ljava/lang/String;"), (6, u "isLowerBound"), (0, u "()Z")] 27

def k6c0 : Code := { maxStack := 1, maxLocals := 1, code := prog_19_method_4_code, exceptionTable := #[], attributes := #[] }
def k6m0 : Method := { name := "symbol", desc := "()Ljava/lang/String;", sig := { parameters := [], returnType := some (.object "java/lang/String") }, accessFlags := 1, code := some k6c0 }
def k6c1 : Code := { maxStack := 2, maxLocals := 1, code := prog_19_method_7_code, exceptionTable := #[], attributes := #[] }
def k6m1 : Method := { name := "isLowerBound", desc := "()Z", sig := { parameters := [], returnType := some .boolean }, accessFlags := 1, code := some k6c1 }
/-- com/example/replan/replan/model/Operator -/
def k6 : Class := { plain "com/example/replan/replan/model/Operator" (some 5) with
  accessFlags := 16433
  interfaces := #[]
  cf := some (fileOf pool6 1 #[] #[{ accessFlags := 1, nameIndex := 43, descriptorIndex := 109, attributes := #[] }, { accessFlags := 1, nameIndex := 116, descriptorIndex := 117, attributes := #[] }] 16433 32 #[] #[{ accessFlags := 16409, nameIndex := 5, descriptorIndex := 6, attributes := #[] }, { accessFlags := 16409, nameIndex := 9, descriptorIndex := 6, attributes := #[] }, { accessFlags := 16409, nameIndex := 12, descriptorIndex := 6, attributes := #[] }, { accessFlags := 16409, nameIndex := 15, descriptorIndex := 6, attributes := #[] }, { accessFlags := 16409, nameIndex := 18, descriptorIndex := 6, attributes := #[] }, { accessFlags := 16409, nameIndex := 21, descriptorIndex := 6, attributes := #[] }, { accessFlags := 18, nameIndex := 43, descriptorIndex := 44, attributes := #[] }, { accessFlags := 4122, nameIndex := 24, descriptorIndex := 25, attributes := #[] }])
  fields := #[{ name := "EQUAL", type := (.object "com/example/replan/replan/model/Operator"), accessFlags := 16409, slot := 0, constantValue := 0 }, { name := "NOT_EQUAL", type := (.object "com/example/replan/replan/model/Operator"), accessFlags := 16409, slot := 1, constantValue := 0 }, { name := "LESS", type := (.object "com/example/replan/replan/model/Operator"), accessFlags := 16409, slot := 2, constantValue := 0 }, { name := "LESS_OR_EQUAL", type := (.object "com/example/replan/replan/model/Operator"), accessFlags := 16409, slot := 3, constantValue := 0 }, { name := "GREATER", type := (.object "com/example/replan/replan/model/Operator"), accessFlags := 16409, slot := 4, constantValue := 0 }, { name := "GREATER_OR_EQUAL", type := (.object "com/example/replan/replan/model/Operator"), accessFlags := 16409, slot := 5, constantValue := 0 }, { name := "symbol", type := (.object "java/lang/String"), accessFlags := 18, slot := 3, constantValue := 0 }, { name := "$VALUES", type := (.array (.object "com/example/replan/replan/model/Operator")), accessFlags := 4122, slot := 6, constantValue := 0 }]
  methods := #[k6m0, k6m1]
  instanceTypes := #[(.object "java/lang/String"), .int, .int, (.object "java/lang/String")]
  staticTypes := #[(.object "com/example/replan/replan/model/Operator"), (.object "com/example/replan/replan/model/Operator"), (.object "com/example/replan/replan/model/Operator"), (.object "com/example/replan/replan/model/Operator"), (.object "com/example/replan/replan/model/Operator"), (.object "com/example/replan/replan/model/Operator"), (.array (.object "com/example/replan/replan/model/Operator"))]
  resolved := Array.replicate 145 none
  statics := some 0 }

def pool7 : Array CpInfo := pool [(2, .class_ 4), (1, u "java/lang/CharSequence"), (42, .class_ 48), (0, u "java/lang/CharSequence$1CodePointIterator"), (10, .class_ 60), (0, u "java/lang/CharSequence$1CharIterator"), (5, .class_ 67), (0, u "java/lang/Object")] 63

/-- java/lang/CharSequence -/
def k7 : Class := { plain "java/lang/CharSequence" (some 0) with
  accessFlags := 1537
  interfaces := #[]
  cf := some (fileOf pool7 2 #[.nestMembers #[47, 59]] #[] 1537 66 #[] #[])
  fields := #[]
  methods := #[]
  instanceTypes := #[]
  staticTypes := #[]
  resolved := Array.replicate 131 none
  statics := none }

def pool8 : Array CpInfo := pool [(1, .class_ 2), (0, u "java/lang/constant/ConstantDesc"), (0, .class_ 4), (0, u "java/lang/Object")] 32

/-- java/lang/constant/ConstantDesc -/
def k8 : Class := { plain "java/lang/constant/ConstantDesc" (some 0) with
  accessFlags := 1537
  interfaces := #[]
  cf := some (fileOf pool8 1 #[] #[] 1537 3 #[] #[])
  fields := #[]
  methods := #[]
  instanceTypes := #[]
  staticTypes := #[]
  resolved := Array.replicate 37 none
  statics := none }

def pool9 : Array CpInfo := pool [(2, .class_ 4), (1, u "java/lang/Object"), (0, u "<init>"), (0, u "()V"), (2, .fieldref 10 11), (0, .class_ 12), (0, .nameAndType 13 14), (0, u "java/lang/String"), (0, u "value"), (0, u "[B"), (0, .fieldref 10 16), (0, .nameAndType 17 18), (0, u "coder"), (0, u "B"), (2, u "hash"), (0, u "I"), (2, u "hashIsZero"), (0, u "Z"), (11, .fieldref 10 39), (0, .nameAndType 40 26), (0, u "COMPACT_STRINGS"), (66, .class_ 109), (1, u "java/lang/StringLatin1"), (32, u "()Z"), (191, u "()I"), (0, .methodref 10 336), (0, .nameAndType 17 337), (0, u "()B"), (25, u "([BI)C"), (27, u "(II)V"), (35, u "(I)C"), (64, .methodref 10 493), (0, .nameAndType 494 142), (0, u "isLatin1"), (0, .methodref 107 496), (0, .nameAndType 497 363), (0, u "charAt"), (3, u "checkIndex"), (5, u "length"), (67, .class_ 576), (0, u "java/lang/CharSequence"), (22, u "CASE_INSENSITIVE_ORDER"), (0, u "Ljava/util/Comparator;"), (452, .fieldref 1054 1055), (0, .class_ 1056), (0, .nameAndType 1057 1058), (0, u "jdk/internal/util/Preconditions"), (0, u "SIOOBE_FORMATTER"), (0, u "Ljava/util/function/BiFunction;"), (0, .methodref 1054 1060), (0, .nameAndType 501 1061), (0, u "(IILjava/util/function/BiFunction;)I"), (39, u "serialPersistentFields"), (0, u "[Ljava/io/ObjectStreamField;"), (0, .class_ 1104), (0, u "java/lang/String$CaseInsensitiveComparator"), (1, .class_ 1107), (0, u "java/io/Serializable"), (0, .class_ 1109), (0, u "java/lang/Comparable"), (0, .class_ 1111), (0, u "java/lang/constant/Constable"), (0, .class_ 1113), (0, u "java/lang/constant/ConstantDesc"), (2, u "serialVersionUID"), (0, u "J"), (3, u "REPL"), (0, u "C"), (2, u "LATIN1"), (1, u "UTF16")] 323

def k9m0 : Method := { name := "<init>", desc := "()V", sig := { parameters := [], returnType := none }, accessFlags := 1, code := none }
def k9c1 : Code := { maxStack := 2, maxLocals := 1, code := jdk_42_method_54_code, exceptionTable := #[], attributes := #[] }
def k9m1 : Method := { name := "length", desc := "()I", sig := { parameters := [], returnType := some .int }, accessFlags := 1, code := some k9c1 }
def k9c2 : Code := { maxStack := 2, maxLocals := 2, code := jdk_42_method_56_code, exceptionTable := #[], attributes := #[] }
def k9m2 : Method := { name := "charAt", desc := "(I)C", sig := { parameters := [.int], returnType := some .char }, accessFlags := 1, code := some k9c2 }
def k9c3 : Code := { maxStack := 1, maxLocals := 1, code := jdk_42_method_152_code, exceptionTable := #[], attributes := #[] }
def k9m3 : Method := { name := "coder", desc := "()B", sig := { parameters := [], returnType := some .byte }, accessFlags := 0, code := some k9c3 }
def k9c4 : Code := { maxStack := 1, maxLocals := 1, code := jdk_42_method_154_code, exceptionTable := #[], attributes := #[] }
def k9m4 : Method := { name := "isLatin1", desc := "()Z", sig := { parameters := [], returnType := some .boolean }, accessFlags := 0, code := some k9c4 }
def k9c5 : Code := { maxStack := 3, maxLocals := 2, code := jdk_42_method_155_code, exceptionTable := #[], attributes := #[] }
def k9m5 : Method := { name := "checkIndex", desc := "(II)V", sig := { parameters := [.int, .int], returnType := none }, accessFlags := 8, code := some k9c5 }
/-- java/lang/String -/
def k9 : Class := { plain "java/lang/String" (some 0) with
  accessFlags := 49
  interfaces := #[4, 3, 7, 2, 8]
  cf := some (fileOf pool9 10 #[.nestMembers #[1103]] #[{ accessFlags := 1, nameIndex := 5, descriptorIndex := 6, attributes := #[] }, { accessFlags := 1, nameIndex := 507, descriptorIndex := 334, attributes := #[] }, { accessFlags := 1, nameIndex := 497, descriptorIndex := 427, attributes := #[] }, { accessFlags := 0, nameIndex := 17, descriptorIndex := 337, attributes := #[] }, { accessFlags := 0, nameIndex := 494, descriptorIndex := 142, attributes := #[] }, { accessFlags := 8, nameIndex := 501, descriptorIndex := 391, attributes := #[] }] 49 2 #[1106, 1108, 575, 1110, 1112] #[{ accessFlags := 18, nameIndex := 13, descriptorIndex := 14, attributes := #[] }, { accessFlags := 18, nameIndex := 17, descriptorIndex := 18, attributes := #[] }, { accessFlags := 2, nameIndex := 21, descriptorIndex := 22, attributes := #[] }, { accessFlags := 2, nameIndex := 25, descriptorIndex := 26, attributes := #[] }, { accessFlags := 26, nameIndex := 1116, descriptorIndex := 1117, attributes := #[] }, { accessFlags := 24, nameIndex := 40, descriptorIndex := 26, attributes := #[] }, { accessFlags := 26, nameIndex := 1101, descriptorIndex := 1102, attributes := #[] }, { accessFlags := 26, nameIndex := 1121, descriptorIndex := 1122, attributes := #[] }, { accessFlags := 25, nameIndex := 599, descriptorIndex := 600, attributes := #[] }, { accessFlags := 24, nameIndex := 1125, descriptorIndex := 18, attributes := #[] }, { accessFlags := 24, nameIndex := 1127, descriptorIndex := 18, attributes := #[] }])
  fields := #[{ name := "value", type := (.array .byte), accessFlags := 18, slot := 0, constantValue := 0 }, { name := "coder", type := .byte, accessFlags := 18, slot := 1, constantValue := 0 }, { name := "hash", type := .int, accessFlags := 2, slot := 2, constantValue := 0 }, { name := "hashIsZero", type := .boolean, accessFlags := 2, slot := 3, constantValue := 0 }, { name := "serialVersionUID", type := .long, accessFlags := 26, slot := 0, constantValue := 0 }, { name := "COMPACT_STRINGS", type := .boolean, accessFlags := 24, slot := 1, constantValue := 0 }, { name := "serialPersistentFields", type := (.array (.object "java/io/ObjectStreamField")), accessFlags := 26, slot := 2, constantValue := 0 }, { name := "REPL", type := .char, accessFlags := 26, slot := 3, constantValue := 0 }, { name := "CASE_INSENSITIVE_ORDER", type := (.object "java/util/Comparator"), accessFlags := 25, slot := 4, constantValue := 0 }, { name := "LATIN1", type := .byte, accessFlags := 24, slot := 5, constantValue := 0 }, { name := "UTF16", type := .byte, accessFlags := 24, slot := 6, constantValue := 0 }]
  methods := #[k9m0, k9m1, k9m2, k9m3, k9m4, k9m5]
  instanceTypes := #[(.array .byte), .byte, .int, .boolean]
  staticTypes := #[.long, .boolean, (.array (.object "java/io/ObjectStreamField")), .char, (.object "java/util/Comparator"), .byte, .byte]
  resolved := Array.replicate 1451 none
  statics := some 1 }

def pool10 : Array CpInfo := pool [(1, .class_ 2), (0, u "java/lang/String"), (1, .class_ 6), (1, u "java/lang/Object"), (0, u "<init>"), (0, u "()V"), (0, .methodref 1 10), (0, .nameAndType 11 12), (0, u "checkIndex"), (0, u "(II)V"), (1, .class_ 16), (1, u "java/lang/StringLatin1"), (36, u "([BI)C"), (67, u "$assertionsDisabled"), (0, u "Z"), (98, .class_ 223), (1, u "java/lang/StringLatin1$LinesSpliterator"), (28, u "charAt"), (137, .class_ 391), (0, u "java/lang/StringLatin1$CharsSpliterator")] 3

def k10m0 : Method := { name := "<init>", desc := "()V", sig := { parameters := [], returnType := none }, accessFlags := 0, code := none }
def k10c1 : Code := { maxStack := 2, maxLocals := 2, code := jdk_43_method_2_code, exceptionTable := #[], attributes := #[] }
def k10m1 : Method := { name := "charAt", desc := "([BI)C", sig := { parameters := [(.array .byte), .int], returnType := some .char }, accessFlags := 9, code := some k10c1 }
/-- java/lang/StringLatin1 -/
def k10 : Class := { plain "java/lang/StringLatin1" (some 0) with
  accessFlags := 48
  interfaces := #[]
  cf := some (fileOf pool10 14 #[.nestMembers #[390, 221]] #[{ accessFlags := 0, nameIndex := 7, descriptorIndex := 8, attributes := #[] }, { accessFlags := 9, nameIndex := 252, descriptorIndex := 53, attributes := #[] }] 48 4 #[] #[{ accessFlags := 4120, nameIndex := 121, descriptorIndex := 122, attributes := #[] }])
  fields := #[{ name := "$assertionsDisabled", type := .boolean, accessFlags := 4120, slot := 0, constantValue := 0 }]
  methods := #[k10m0, k10m1]
  instanceTypes := #[]
  staticTypes := #[.boolean]
  resolved := Array.replicate 395 none
  statics := none }

def pool11 : Array CpInfo := pool [(2, .class_ 4), (1, u "java/lang/Object"), (0, u "<init>"), (0, u "()V"), (17, .class_ 26), (1, u "jdk/internal/util/Preconditions"), (6, u "checkIndex"), (21, .class_ 56), (0, u "jdk/internal/util/Preconditions$4"), (57, .class_ 115), (0, u "jdk/internal/util/Preconditions$1"), (7, u "SIOOBE_FORMATTER"), (0, u "Ljava/util/function/BiFunction;"), (0, .class_ 126), (0, u "jdk/internal/util/Preconditions$2"), (3, u "AIOOBE_FORMATTER"), (0, .class_ 132), (0, u "jdk/internal/util/Preconditions$3"), (3, u "IOOBE_FORMATTER"), (41, u "(IILjava/util/function/BiFunction;)I")] 15

def k11m0 : Method := { name := "<init>", desc := "()V", sig := { parameters := [], returnType := none }, accessFlags := 1, code := none }
def k11c1 : Code := { maxStack := 3, maxLocals := 3, code := jdk_41_method_11_code, exceptionTable := #[], attributes := #[] }
def k11m1 : Method := { name := "checkIndex", desc := "(IILjava/util/function/BiFunction;)I", sig := { parameters := [.int, .int, (.object "java/util/function/BiFunction")], returnType := some .int }, accessFlags := 9, code := some k11c1 }
/-- jdk/internal/util/Preconditions -/
def k11 : Class := { plain "jdk/internal/util/Preconditions" (some 0) with
  accessFlags := 33
  interfaces := #[]
  cf := some (fileOf pool11 24 #[.nestMembers #[55, 131, 125, 114]] #[{ accessFlags := 1, nameIndex := 5, descriptorIndex := 6, attributes := #[] }, { accessFlags := 9, nameIndex := 33, descriptorIndex := 178, attributes := #[] }] 33 2 #[] #[{ accessFlags := 25, nameIndex := 123, descriptorIndex := 124, attributes := #[] }, { accessFlags := 25, nameIndex := 130, descriptorIndex := 124, attributes := #[] }, { accessFlags := 25, nameIndex := 136, descriptorIndex := 124, attributes := #[] }])
  fields := #[{ name := "SIOOBE_FORMATTER", type := (.object "java/util/function/BiFunction"), accessFlags := 25, slot := 0, constantValue := 0 }, { name := "AIOOBE_FORMATTER", type := (.object "java/util/function/BiFunction"), accessFlags := 25, slot := 1, constantValue := 0 }, { name := "IOOBE_FORMATTER", type := (.object "java/util/function/BiFunction"), accessFlags := 25, slot := 2, constantValue := 0 }]
  methods := #[k11m0, k11m1]
  instanceTypes := #[]
  staticTypes := #[(.object "java/util/function/BiFunction"), (.object "java/util/function/BiFunction"), (.object "java/util/function/BiFunction")]
  resolved := Array.replicate 194 none
  statics := some 2 }

def pool12 : Array CpInfo := pool [(9, u "<init>"), (6, .class_ 18), (1, u "java/lang/Object"), (0, u "()V"), (1, .class_ 23), (1, u "jdk/internal/util/ArraysSupport"), (0, u "LOG2_ARRAY_LONG_INDEX_SCALE"), (0, u "I"), (2, u "U"), (0, u "Ljdk/internal/misc/Unsafe;"), (8, u "BIG_ENDIAN"), (0, u "Z"), (8, u "LOG2_BYTE_BIT_SIZE"), (4, u "LOG2_ARRAY_INT_INDEX_SCALE"), (54, u "JLA"), (0, u "Ljdk/internal/access/JavaLangAccess;"), (11, u "LOG2_ARRAY_BOOLEAN_INDEX_SCALE"), (9, u "LOG2_ARRAY_BYTE_INDEX_SCALE"), (5, u "LOG2_ARRAY_CHAR_INDEX_SCALE"), (5, u "LOG2_ARRAY_SHORT_INDEX_SCALE"), (18, u "LOG2_ARRAY_FLOAT_INDEX_SCALE"), (24, u "LOG2_ARRAY_DOUBLE_INDEX_SCALE"), (89, u "T_BOOLEAN"), (2, u "T_CHAR"), (1, u "T_FLOAT"), (1, u "T_DOUBLE"), (1, u "T_BYTE"), (1, u "T_SHORT"), (1, u "T_INT"), (1, u "T_LONG"), (1, u "SOFT_MAX_ARRAY_LENGTH")] 83

def k12m0 : Method := { name := "<init>", desc := "()V", sig := { parameters := [], returnType := none }, accessFlags := 2, code := none }
/-- jdk/internal/util/ArraysSupport -/
def k12 : Class := { plain "jdk/internal/util/ArraysSupport" (some 0) with
  accessFlags := 33
  interfaces := #[]
  cf := some (fileOf pool12 21 #[] #[{ accessFlags := 2, nameIndex := 9, descriptorIndex := 19, attributes := #[] }] 33 16 #[] #[{ accessFlags := 24, nameIndex := 28, descriptorIndex := 29, attributes := #[] }, { accessFlags := 26, nameIndex := 38, descriptorIndex := 39, attributes := #[] }, { accessFlags := 25, nameIndex := 121, descriptorIndex := 25, attributes := #[] }, { accessFlags := 25, nameIndex := 131, descriptorIndex := 25, attributes := #[] }, { accessFlags := 25, nameIndex := 137, descriptorIndex := 25, attributes := #[] }, { accessFlags := 25, nameIndex := 143, descriptorIndex := 25, attributes := #[] }, { accessFlags := 25, nameIndex := 53, descriptorIndex := 25, attributes := #[] }, { accessFlags := 25, nameIndex := 24, descriptorIndex := 25, attributes := #[] }, { accessFlags := 25, nameIndex := 162, descriptorIndex := 25, attributes := #[] }, { accessFlags := 25, nameIndex := 187, descriptorIndex := 25, attributes := #[] }, { accessFlags := 26, nameIndex := 48, descriptorIndex := 25, attributes := #[] }, { accessFlags := 25, nameIndex := 277, descriptorIndex := 25, attributes := #[] }, { accessFlags := 25, nameIndex := 280, descriptorIndex := 25, attributes := #[] }, { accessFlags := 25, nameIndex := 282, descriptorIndex := 25, attributes := #[] }, { accessFlags := 25, nameIndex := 284, descriptorIndex := 25, attributes := #[] }, { accessFlags := 25, nameIndex := 286, descriptorIndex := 25, attributes := #[] }, { accessFlags := 25, nameIndex := 288, descriptorIndex := 25, attributes := #[] }, { accessFlags := 25, nameIndex := 290, descriptorIndex := 25, attributes := #[] }, { accessFlags := 25, nameIndex := 292, descriptorIndex := 25, attributes := #[] }, { accessFlags := 26, nameIndex := 108, descriptorIndex := 109, attributes := #[] }, { accessFlags := 25, nameIndex := 294, descriptorIndex := 25, attributes := #[] }])
  fields := #[{ name := "U", type := (.object "jdk/internal/misc/Unsafe"), accessFlags := 24, slot := 0, constantValue := 0 }, { name := "BIG_ENDIAN", type := .boolean, accessFlags := 26, slot := 1, constantValue := 0 }, { name := "LOG2_ARRAY_BOOLEAN_INDEX_SCALE", type := .int, accessFlags := 25, slot := 2, constantValue := 0 }, { name := "LOG2_ARRAY_BYTE_INDEX_SCALE", type := .int, accessFlags := 25, slot := 3, constantValue := 0 }, { name := "LOG2_ARRAY_CHAR_INDEX_SCALE", type := .int, accessFlags := 25, slot := 4, constantValue := 0 }, { name := "LOG2_ARRAY_SHORT_INDEX_SCALE", type := .int, accessFlags := 25, slot := 5, constantValue := 0 }, { name := "LOG2_ARRAY_INT_INDEX_SCALE", type := .int, accessFlags := 25, slot := 6, constantValue := 0 }, { name := "LOG2_ARRAY_LONG_INDEX_SCALE", type := .int, accessFlags := 25, slot := 7, constantValue := 0 }, { name := "LOG2_ARRAY_FLOAT_INDEX_SCALE", type := .int, accessFlags := 25, slot := 8, constantValue := 0 }, { name := "LOG2_ARRAY_DOUBLE_INDEX_SCALE", type := .int, accessFlags := 25, slot := 9, constantValue := 0 }, { name := "LOG2_BYTE_BIT_SIZE", type := .int, accessFlags := 26, slot := 10, constantValue := 0 }, { name := "T_BOOLEAN", type := .int, accessFlags := 25, slot := 11, constantValue := 0 }, { name := "T_CHAR", type := .int, accessFlags := 25, slot := 12, constantValue := 0 }, { name := "T_FLOAT", type := .int, accessFlags := 25, slot := 13, constantValue := 0 }, { name := "T_DOUBLE", type := .int, accessFlags := 25, slot := 14, constantValue := 0 }, { name := "T_BYTE", type := .int, accessFlags := 25, slot := 15, constantValue := 0 }, { name := "T_SHORT", type := .int, accessFlags := 25, slot := 16, constantValue := 0 }, { name := "T_INT", type := .int, accessFlags := 25, slot := 17, constantValue := 0 }, { name := "T_LONG", type := .int, accessFlags := 25, slot := 18, constantValue := 0 }, { name := "JLA", type := (.object "jdk/internal/access/JavaLangAccess"), accessFlags := 26, slot := 19, constantValue := 0 }, { name := "SOFT_MAX_ARRAY_LENGTH", type := .int, accessFlags := 25, slot := 20, constantValue := 0 }]
  methods := #[k12m0]
  instanceTypes := #[]
  staticTypes := #[(.object "jdk/internal/misc/Unsafe"), .boolean, .int, .int, .int, .int, .int, .int, .int, .int, .int, .int, .int, .int, .int, .int, .int, .int, .int, (.object "jdk/internal/access/JavaLangAccess"), .int]
  resolved := Array.replicate 378 none
  statics := none }

def pool13 : Array CpInfo := pool [(1, u "java/lang/Cloneable"), (0, .class_ 1), (0, u "java/lang/Object"), (0, .class_ 3)] 3

/-- java/lang/Cloneable -/
def k13 : Class := { plain "java/lang/Cloneable" (some 0) with
  accessFlags := 1537
  interfaces := #[]
  cf := some (fileOf pool13 2 #[] #[] 1537 4 #[] #[])
  fields := #[]
  methods := #[]
  instanceTypes := #[]
  staticTypes := #[]
  resolved := Array.replicate 8 none
  statics := none }

/-- the primitive byte -/
def k14 : Class := { plain "byte" none with kind := .primitive 'B', accessFlags := 0x411 }
/-- [B -/
def k15 : Class := { plain "[B" (some 0) with kind := .array 14 .byte, interfaces := #[13, 4], accessFlags := 1041 }

/-- the primitive int -/
def k16 : Class := { plain "int" none with kind := .primitive 'I', accessFlags := 0x411 }
/-- [I -/
def k17 : Class := { plain "[I" (some 0) with kind := .array 16 .int, interfaces := #[13, 4], accessFlags := 1041 }

def heap : Heap := #[{ cls := 6, slots := #[.ref 15, .ref 16, .ref 17, .ref 18, .ref 19, .ref 20, .null], vm := .statics 6 },
  { cls := 9, slots := #[.long 0, .int 1, .null, .int 0, .null, .int 0, .int 0], vm := .statics 9 },
  { cls := 11, slots := #[.null, .null, .null], vm := .statics 11 },
  { cls := 15, slots := #[.int 61], vm := .none },
  { cls := 15, slots := #[.int 60, .int 62], vm := .none },
  { cls := 15, slots := #[.int 60], vm := .none },
  { cls := 15, slots := #[.int 60, .int 61], vm := .none },
  { cls := 15, slots := #[.int 62], vm := .none },
  { cls := 15, slots := #[.int 62, .int 61], vm := .none },
  { cls := 9, slots := #[.ref 3, .int 0, .int 0, .int 0], vm := .none },
  { cls := 9, slots := #[.ref 4, .int 0, .int 0, .int 0], vm := .none },
  { cls := 9, slots := #[.ref 5, .int 0, .int 0, .int 0], vm := .none },
  { cls := 9, slots := #[.ref 6, .int 0, .int 0, .int 0], vm := .none },
  { cls := 9, slots := #[.ref 7, .int 0, .int 0, .int 0], vm := .none },
  { cls := 9, slots := #[.ref 8, .int 0, .int 0, .int 0], vm := .none },
  { cls := 6, slots := #[.null, .int 0, .int 0, .ref 9], vm := .none },
  { cls := 6, slots := #[.null, .int 1, .int 0, .ref 10], vm := .none },
  { cls := 6, slots := #[.null, .int 2, .int 0, .ref 11], vm := .none },
  { cls := 6, slots := #[.null, .int 3, .int 0, .ref 12], vm := .none },
  { cls := 6, slots := #[.null, .int 4, .int 0, .ref 13], vm := .none },
  { cls := 6, slots := #[.null, .int 5, .int 0, .ref 14], vm := .none }]
def classes : Array Class := #[k0, k1, k2, k3, k4, k5, k6, k7, k8, k9, k10, k11, k12, k13, k14, k15, k16, k17]
def interned : List (Array UInt16 × Addr) := []
def slotsUsed : Nat := 74
def theMethod : MethodId := ⟨1, 2⟩
def args0 : Array Value := #[.int 5]
def aboutOver (below : List Frame) : State where
  vm := { classes := classes, interned := interned.toArray }
  heap := heap
  slotsUsed := slotsUsed
  threads := #[{ frames := .invoking theMethod args0 :: below }]
def below0 : List Frame := [.native { method := ⟨0, 0⟩, args := #[] }]
def about1 : State := aboutOver below0
def p0 : Program := .bare "" "" ""
def e0 : Env := launch0.env 0 0 0
theorem w_frames : about1.frames = Frame.invoking theMethod args0 :: below0 := rfl
set_option maxRecDepth 65536 in
theorem w_args : argsFit about1.vm theMethod args0 = true := by decide +kernel
set_option maxRecDepth 65536 in
theorem w_heap : heapFits about1 = true := by decide +kernel
set_option maxRecDepth 65536 in
theorem w_runnable : about1.curStatus? = some .runnable := by decide +kernel
set_option maxRecDepth 65536 in
theorem w_alone : about1.alone = true := by decide +kernel
set_option maxRecDepth 65536 in
theorem w_named : about1.methodNamed? x = some theMethod := by decide +kernel
set_option maxRecDepth 65536 in
theorem w_hears : about1.hears theMethod below0 = true := by decide +kernel
set_option maxRecDepth 65536 in
theorem w_ripe : about1.ripe theMethod args0 below0 = true := by decide +kernel
theorem w_running : about1.status = .running := rfl
set_option maxRecDepth 65536 in
theorem w_room : about1.hasRoom e0.platform room_1 = true :=
  launch0.hasRoom_least _ room_1 (by decide +kernel) (by decide +kernel) (by decide +kernel) (by decide +kernel) (by decide +kernel) (by decide +kernel)
theorem allAtoms_all (ts : List Jvm.Cond) (a : Array Jvm.Value) (st : Jvm.State) : (allAtoms ts).before a st = ts.all (fun c => c.before a st) := by
  induction ts with
  | nil => rfl
  | cons c t ih =>
    show (Jvm.Cond.and c (allAtoms t)).before a st = _
    rw [Jvm.Cond.before_and, ih, List.all_cons]
def words1 : List Jvm.Cond := Jvm.Cond.code x code maxLocals ret :: tables_1
/-- a 'code' word, met by the world's own term for the bytes: nothing is compared byte by byte -/
theorem code_word {y : MethodName} {bytes : ByteArray} {mx : Nat} {rt : Option FieldType} {a : Array Value} {s : State} {m : MethodId} {meth : Method} {c : Code} (h1 : s.methodNamed? y = some m) (h2 : s.vm.method? m = some meth) (h3 : meth.code = some c) (h4 : c.code = bytes)
    (h5 : (c.maxLocals == mx && c.exceptionTable.isEmpty && decide (c.maxStack ≤ mostOperands) && decide (meth.sig.returnType = rt) && !meth.locks && decide (parseMethodDescriptor y.desc = some meth.sig)) = true) : (Jvm.Cond.code y bytes mx rt).before a s = true := by
  simp only [Bool.and_eq_true, beq_iff_eq, Bool.not_eq_true', decide_eq_true_eq] at h5
  obtain ⟨⟨⟨⟨⟨g1, g2⟩, g3⟩, g4⟩, g5⟩, g6⟩ := h5
  simp [Cond.before, Cond.holds, Cond.value, h1, h2, h3, h4, g1, g2, g3, g4, g5, g6]
def isCode : Jvm.Cond → Bool
  | .code _ _ _ _ => true
  | _ => false
theorem all_split {L : List Jvm.Cond} {P : Jvm.Cond → Bool} (h1 : L.all (fun c => isCode c || P c) = true) (h2 : ∀ c ∈ L.filter isCode, P c = true) : L.all P = true := by
  refine List.all_eq_true.mpr fun c hc => ?_
  have h := List.all_eq_true.mp h1 c hc
  rcases Bool.eq_false_or_eq_true (isCode c) with hi | hi
  · exact h2 c (List.mem_filter.mpr ⟨hc, hi⟩)
  · simpa [hi] using h
set_option maxRecDepth 65536 in
theorem w_c0 : (Jvm.Cond.code x code maxLocals ret).before args0 about1 = true := code_word (m := ⟨1, 2⟩) (meth := k1m2) (c := k1c2) (by decide +kernel) rfl rfl rfl (by decide +kernel)
set_option maxRecDepth 65536 in
theorem w_c1 : (Jvm.Cond.code ({ cls := "com/example/replan/replan/model/OperatorIsLowerBoundPinLaw", name := "pick", desc := "(I)Lcom/example/replan/replan/model/Operator;" } : Jvm.MethodName) method_2_code (1 : Nat) (Option.some (Jvm.ClassFile.FieldType.object "com/example/replan/replan/model/Operator"))).before args0 about1 = true := code_word (m := ⟨1, 1⟩) (meth := k1m1) (c := k1c1) (by decide +kernel) rfl rfl rfl (by decide +kernel)
set_option maxRecDepth 65536 in
theorem w_c2 : (Jvm.Cond.code ({ cls := "com/example/replan/replan/model/Operator", name := "isLowerBound", desc := "()Z" } : Jvm.MethodName) prog_19_method_7_code (1 : Nat) (Option.some Jvm.ClassFile.FieldType.boolean)).before args0 about1 = true := code_word (m := ⟨6, 1⟩) (meth := k6m1) (c := k6c1) (by decide +kernel) rfl rfl rfl (by decide +kernel)
set_option maxRecDepth 65536 in
theorem w_c3 : (Jvm.Cond.code ({ cls := "com/example/replan/replan/model/Operator", name := "symbol", desc := "()Ljava/lang/String;" } : Jvm.MethodName) prog_19_method_4_code (1 : Nat) (Option.some (Jvm.ClassFile.FieldType.object "java/lang/String"))).before args0 about1 = true := code_word (m := ⟨6, 0⟩) (meth := k6m0) (c := k6c0) (by decide +kernel) rfl rfl rfl (by decide +kernel)
set_option maxRecDepth 65536 in
theorem w_c4 : (Jvm.Cond.code ({ cls := "java/lang/String", name := "length", desc := "()I" } : Jvm.MethodName) jdk_42_method_54_code (1 : Nat) (Option.some Jvm.ClassFile.FieldType.int)).before args0 about1 = true := code_word (m := ⟨9, 1⟩) (meth := k9m1) (c := k9c1) (by decide +kernel) rfl rfl rfl (by decide +kernel)
set_option maxRecDepth 65536 in
theorem w_c5 : (Jvm.Cond.code ({ cls := "java/lang/String", name := "coder", desc := "()B" } : Jvm.MethodName) jdk_42_method_152_code (1 : Nat) (Option.some Jvm.ClassFile.FieldType.byte)).before args0 about1 = true := code_word (m := ⟨9, 3⟩) (meth := k9m3) (c := k9c3) (by decide +kernel) rfl rfl rfl (by decide +kernel)
set_option maxRecDepth 65536 in
theorem w_c6 : (Jvm.Cond.code ({ cls := "java/lang/String", name := "charAt", desc := "(I)C" } : Jvm.MethodName) jdk_42_method_56_code (2 : Nat) (Option.some Jvm.ClassFile.FieldType.char)).before args0 about1 = true := code_word (m := ⟨9, 2⟩) (meth := k9m2) (c := k9c2) (by decide +kernel) rfl rfl rfl (by decide +kernel)
set_option maxRecDepth 65536 in
theorem w_c7 : (Jvm.Cond.code ({ cls := "java/lang/String", name := "isLatin1", desc := "()Z" } : Jvm.MethodName) jdk_42_method_154_code (1 : Nat) (Option.some Jvm.ClassFile.FieldType.boolean)).before args0 about1 = true := code_word (m := ⟨9, 4⟩) (meth := k9m4) (c := k9c4) (by decide +kernel) rfl rfl rfl (by decide +kernel)
set_option maxRecDepth 65536 in
theorem w_c8 : (Jvm.Cond.code ({ cls := "java/lang/StringLatin1", name := "charAt", desc := "([BI)C" } : Jvm.MethodName) jdk_43_method_2_code (2 : Nat) (Option.some Jvm.ClassFile.FieldType.char)).before args0 about1 = true := code_word (m := ⟨10, 1⟩) (meth := k10m1) (c := k10c1) (by decide +kernel) rfl rfl rfl (by decide +kernel)
set_option maxRecDepth 65536 in
theorem w_c9 : (Jvm.Cond.code ({ cls := "java/lang/String", name := "checkIndex", desc := "(II)V" } : Jvm.MethodName) jdk_42_method_155_code (2 : Nat) (Option.none : Option Jvm.ClassFile.FieldType)).before args0 about1 = true := code_word (m := ⟨9, 5⟩) (meth := k9m5) (c := k9c5) (by decide +kernel) rfl rfl rfl (by decide +kernel)
set_option maxRecDepth 65536 in
theorem w_c10 : (Jvm.Cond.code ({ cls := "jdk/internal/util/Preconditions", name := "checkIndex", desc := "(IILjava/util/function/BiFunction;)I" } : Jvm.MethodName) jdk_41_method_11_code (3 : Nat) (Option.some Jvm.ClassFile.FieldType.int)).before args0 about1 = true := code_word (m := ⟨11, 1⟩) (meth := k11m1) (c := k11c1) (by decide +kernel) rfl rfl rfl (by decide +kernel)
def codes1 : List Jvm.Cond := [Jvm.Cond.code x code maxLocals ret, Jvm.Cond.code ({ cls := "com/example/replan/replan/model/OperatorIsLowerBoundPinLaw", name := "pick", desc := "(I)Lcom/example/replan/replan/model/Operator;" } : Jvm.MethodName) method_2_code (1 : Nat) (Option.some (Jvm.ClassFile.FieldType.object "com/example/replan/replan/model/Operator")), Jvm.Cond.code ({ cls := "com/example/replan/replan/model/Operator", name := "isLowerBound", desc := "()Z" } : Jvm.MethodName) prog_19_method_7_code (1 : Nat) (Option.some Jvm.ClassFile.FieldType.boolean), Jvm.Cond.code ({ cls := "com/example/replan/replan/model/Operator", name := "symbol", desc := "()Ljava/lang/String;" } : Jvm.MethodName) prog_19_method_4_code (1 : Nat) (Option.some (Jvm.ClassFile.FieldType.object "java/lang/String")), Jvm.Cond.code ({ cls := "java/lang/String", name := "length", desc := "()I" } : Jvm.MethodName) jdk_42_method_54_code (1 : Nat) (Option.some Jvm.ClassFile.FieldType.int), Jvm.Cond.code ({ cls := "java/lang/String", name := "coder", desc := "()B" } : Jvm.MethodName) jdk_42_method_152_code (1 : Nat) (Option.some Jvm.ClassFile.FieldType.byte), Jvm.Cond.code ({ cls := "java/lang/String", name := "charAt", desc := "(I)C" } : Jvm.MethodName) jdk_42_method_56_code (2 : Nat) (Option.some Jvm.ClassFile.FieldType.char), Jvm.Cond.code ({ cls := "java/lang/String", name := "isLatin1", desc := "()Z" } : Jvm.MethodName) jdk_42_method_154_code (1 : Nat) (Option.some Jvm.ClassFile.FieldType.boolean), Jvm.Cond.code ({ cls := "java/lang/StringLatin1", name := "charAt", desc := "([BI)C" } : Jvm.MethodName) jdk_43_method_2_code (2 : Nat) (Option.some Jvm.ClassFile.FieldType.char), Jvm.Cond.code ({ cls := "java/lang/String", name := "checkIndex", desc := "(II)V" } : Jvm.MethodName) jdk_42_method_155_code (2 : Nat) (Option.none : Option Jvm.ClassFile.FieldType), Jvm.Cond.code ({ cls := "jdk/internal/util/Preconditions", name := "checkIndex", desc := "(IILjava/util/function/BiFunction;)I" } : Jvm.MethodName) jdk_41_method_11_code (3 : Nat) (Option.some Jvm.ClassFile.FieldType.int)]
set_option maxRecDepth 65536 in
theorem codes_eq : words1.filter isCode = codes1 := rfl
theorem w_codes : ∀ c ∈ words1.filter isCode, c.before args0 about1 = true := by
  rw [codes_eq]
  intro c hc
  simp only [codes1, List.mem_cons, List.not_mem_nil, or_false] at hc
  rcases hc with rfl | rfl | rfl | rfl | rfl | rfl | rfl | rfl | rfl | rfl | rfl
  · exact w_c0
  · exact w_c1
  · exact w_c2
  · exact w_c3
  · exact w_c4
  · exact w_c5
  · exact w_c6
  · exact w_c7
  · exact w_c8
  · exact w_c9
  · exact w_c10
set_option maxRecDepth 65536 in
theorem w_t1 : (words1.take 24).all (fun c => isCode c || c.before args0 about1) = true := by decide +kernel
set_option maxRecDepth 65536 in
theorem w_t2 : ((words1.drop 24).take 24).all (fun c => isCode c || c.before args0 about1) = true := by decide +kernel
set_option maxRecDepth 65536 in
theorem w_t3 : ((words1.drop 24).drop 24).all (fun c => isCode c || c.before args0 about1) = true := by decide +kernel
theorem w_tables : (allAtoms (Jvm.Cond.code x code maxLocals ret :: tables_1)).before args0 about1 = true := by
  rw [allAtoms_all]
  show words1.all (fun c => c.before args0 about1) = true
  refine all_split ?_ w_codes
  rw [← List.take_append_drop 24 words1, List.all_append, w_t1, ← List.take_append_drop 24 (words1.drop 24), List.all_append, w_t2, w_t3]
  rfl
set_option maxRecDepth 65536 in
theorem w_rest : rest_1_c.before args0 about1 = true := by decide +kernel
set_option maxRecDepth 65536 in
theorem w_case : (Jvm.Cond.and given_1 narrow_1).before args0 about1 = true := by decide +kernel
theorem w_applies : (headSpec (Jvm.Cond.code x code maxLocals ret :: tables_1) room_1).applies x e0.platform about1 = true :=
  (Spec.applies_iff w_frames).mpr ⟨w_running, w_runnable, w_alone, w_named, w_hears, w_ripe, w_room, w_tables⟩
theorem atStart : AtStart classFile x code maxLocals ret World_1 tables_1 room_1 Calls_1 rest_1 Pre_1 launch0 p0 e0 about1 theMethod args0 below0 :=
  ⟨lists_1, trivial, launch0.admits_env _ _ _, launch0.least_env, fairChoices_fair.cas, fairChoices_fair.clock, w_frames, w_args, w_heap, w_applies, trivial, w_rest, w_case⟩
end start1
theorem witness_1 : WitnessClaimed_1 := ⟨start1.p0, start1.e0, start1.about1, start1.theMethod, start1.args0, start1.below0, start1.atStart⟩
end Jvm.Pilot.@@N@@
