import JvmDerived
import JvmDerived.Pilot.@@N@@Statement
import JvmDerived.Pilot.@@N@@Code
set_option linter.unusedVariables false
set_option linter.unusedSimpArgs false
namespace Jvm.RoadKit
open Sem ClassFile Op Lib Jvm.Stand Jvm.Free Jvm.LawKit
section New
variable {p : Program} {l : Launch} {e : Env} {R : Room} {s : State} {m : MethodId} {args : Array Value} {below : List Frame} {meth : Method} {c : Code} {T : State} {locs : List Loc} {cells slots : Nat}
theorem retI (X : Stand p l e R s m args below meth c T locs cells slots) (hx : p.tables.exec = Jvm.exec) {pc : Nat} {Ls : Array Slot} {z : Int32} {rest : List Value} (hret : meth.sig.returnType = some .int) (hd : decode c.code pc = .ok (.ireturn, 1)) {fs : List Frame}
    (hl : ∀ (f : JFrame) (acts : List Action), f.method = m → f.locked = none → f.entered = [] → (doReturn e (T.setTop f) acts (some (.int z))).1 = T.setFrames fs) : Steps p.tables e below (T.setTop (mkF m pc Ls (.int z :: rest))) (T.setFrames fs) := by
  have hm' : T.vm.method? m = some meth := X.method'
  have hn : narrow .int (.int z) = .int z := rfl
  show Steps p.tables e below (T.setTop { method := m, pc := pc, locals := Ls, stack := _ :: rest, locked := none }) _
  jvm_step X.here [X.here.top, hx, hd, hm', hret, hn]
  first | (intro acts; rw [hl _ acts rfl rfl rfl]) | rw [hl _ _ rfl rfl rfl]
  exact Steps.refl _
theorem own_retJ (X : Stand p l e R s m args below meth c T locs cells slots) (hx : p.tables.exec = Jvm.exec) {pc : Nat} {Ls : Array Slot} {z : Int64} {rest : List Value} (hret : meth.sig.returnType = some .long) (hd : decode c.code pc = .ok (.lreturn, 1)) {fs : List Frame}
    (hl : ∀ (f : JFrame) (acts : List Action), f.method = m → f.locked = none → f.entered = [] → (doReturn e (T.setTop f) acts (some (.long z))).1 = T.setFrames fs) : Steps p.tables e below (T.setTop (mkF m pc Ls (.long z :: rest))) (T.setFrames fs) := by
  have hm' : T.vm.method? m = some meth := X.method'
  show Steps p.tables e below (T.setTop { method := m, pc := pc, locals := Ls, stack := _ :: rest, locked := none }) _
  jvm_step X.here [X.here.top, hx, hd, hm', hret, narrow]
  first | (intro acts; rw [hl _ acts rfl rfl rfl]) | rw [hl _ _ rfl rfl rfl]
  exact Steps.refl _
theorem own_retR (X : Stand p l e R s m args below meth c T locs cells slots) (hx : p.tables.exec = Jvm.exec) {pc : Nat} {Ls : Array Slot} {z : Value} (hz : z.isRef = true) {rest : List Value} {t : FieldType} (hret : meth.sig.returnType = some t) (ht : t.isReference = true) (hd : decode c.code pc = .ok (.areturn, 1)) {fs : List Frame}
    (hl : ∀ (f : JFrame) (acts : List Action), f.method = m → f.locked = none → f.entered = [] → (doReturn e (T.setTop f) acts (some z)).1 = T.setFrames fs) : Steps p.tables e below (T.setTop (mkF m pc Ls (z :: rest))) (T.setFrames fs) := by
  have hm' : T.vm.method? m = some meth := X.method'
  show Steps p.tables e below (T.setTop { method := m, pc := pc, locals := Ls, stack := _ :: rest, locked := none }) _
  rcases ref_cases hz with rfl | ⟨a, rfl⟩ <;> cases t <;> first
    | (simp [FieldType.isReference] at ht; done)
    | (jvm_step X.here [X.here.top, hx, hd, hm', hret, Value.isRef, FieldType.isReference]
       first | (intro acts; rw [hl _ acts rfl rfl rfl]) | rw [hl _ _ rfl rfl rfl]
       exact Steps.refl _)
/-- the walk goes on: from this frame the body comes to an end at which P holds -/
def own_G (tb : Tables) (e : Env) (below : List Frame) (T : State) (f : JFrame) (P : State → Outcome → Prop) : Prop := ∃ s₂ o, Steps tb e below (T.setTop f) s₂ ∧ P s₂ o
def own_P (below : List Frame) (s : State) (Q : Option Value → Heap → List Loc → Prop) (ck kk : Nat) : State → Outcome → Prop := fun s₂ o => s₂.status = .running ∧ Ended s₂ below o ∧ ∃ v L, o = .returned v ∧ Q v s₂.heap L ∧ FrameEnd s o s₂ L ck kk
theorem own_go {tb : Tables} {e : Env} {below : List Frame} {T T' : State} {f f' : JFrame} {P : State → Outcome → Prop} (h : ∀ t, Steps tb e below (T'.setTop f') t → Steps tb e below (T.setTop f) t) (g : own_G tb e below T' f' P) : own_G tb e below T f P := by
  obtain ⟨a, o, h1, h2⟩ := g; exact ⟨a, o, h a h1, h2⟩
theorem own_end (X : Stand p l e R s m args below meth c T locs cells slots) (hlocks : meth.locks = false) {v : Option Value} (hv : meth.sig.returnType = none → v = none) {f : JFrame}
    (hret : ∀ fs, (∀ (f : JFrame) (acts : List Action), f.method = m → f.locked = none → f.entered = [] → (doReturn e (T.setTop f) acts v).1 = T.setFrames fs) → Steps p.tables e below (T.setTop f) (T.setFrames fs))
    {Q : Option Value → Heap → List Loc → Prop} {h : Heap} (eT : T.heap = h) (hQ : Q v h locs) {ck kk : Nat} (hc : cells ≤ ck) (hk : slots ≤ kk) : own_G p.tables e below T f (own_P below s Q ck kk) := by
  obtain ⟨fs, hr, hrun, hended, hW, hsame⟩ := X.leave (v := v) hv hlocks
  subst eT
  exact ⟨_, _, hret fs hr, hrun, hended, _, _, rfl, hQ, ⟨_, rfl⟩, hW, hsame.mono hc hk⟩
theorem own_top {tb : Tables} {e : Env} {below : List Frame} {T : State} {f f' : JFrame} {s : State} {Q : Option Value → Heap → List Loc → Prop} {ck kk : Nat} (ef : f = f') (g : own_G tb e below T f' (own_P below s Q ck kk)) :
    ∃ s₂ o, Steps tb e below (T.setTop f) s₂ ∧ s₂.status = .running ∧ Ended s₂ below o ∧ ∃ v L, o = .returned v ∧ Q v s₂.heap L ∧ FrameEnd s o s₂ L ck kk := by
  subst ef; exact g
theorem own_sk {Z : State} {h h' : Heap} {C n d : String} {v : Value} {ws : List Addr} (F : Sta Z h C n d v) (K : Keep h h' ws) (q : ∀ x ∈ ws, ∀ c : Cell, h[x]? = some c → c.vm.isStatics = false) : Sta Z h' C n d v := by
  obtain ⟨cf, i, k, f, st, cell, h1, h2, h3, h4, h5, h6, h7⟩ := F
  exact ⟨cf, i, k, f, st, cell, h1, h2, h3, h4, K.2.1 st cell h5 (fun hm => by have := q st hm cell h5; rw [h6] at this; cases this), h6, h7⟩
theorem own_ak {Z : State} {h h' : Heap} {a : Addr} {c : Cell} {ty : FieldType} (A : Arr Z h a c ty) (K : Keep h h' []) : Arr Z h' a c ty := ⟨K.2.1 a c A.1 List.not_mem_nil, A.2⟩
theorem own_akn {Z : State} {h h' : Heap} {a : Addr} {c : Cell} {ty : FieldType} {ws : List Addr} (A : Arr Z h a c ty) (K : Keep h h' ws) (q : a ∉ ws) : Arr Z h' a c ty := ⟨K.2.1 a c A.1 q, A.2⟩
theorem own_plv {Z : State} {h : Heap} {a : Addr} {k : ClassId} {ty : FieldType} {n : Int32} {vs : List Value} {d : Value} (A : Arv Z h a k ty n vs d) : ∀ c : Cell, h[a]? = some c → c.vm.isStatics = false := fun c hc => by
  obtain ⟨cl, A, -⟩ := A; have := A.1; rw [this] at hc; cases hc; exact A.plain
theorem own_pl {Z : State} {h : Heap} {a : Addr} {C : String} (E : Exa Z h a C) : ∀ c : Cell, h[a]? = some c → c.vm.isStatics = false := fun c hc => by
  obtain ⟨cell, k, h1, _, _, h4, _⟩ := E; rw [h1] at hc; cases hc; exact h4
theorem own_pl1 {h : Heap} {a : Addr} (q : ∀ c : Cell, h[a]? = some c → c.vm.isStatics = false) : ∀ x ∈ [a], ∀ c : Cell, h[x]? = some c → c.vm.isStatics = false := fun x hx => by
  cases List.mem_singleton.mp hx; exact q
end New
end Jvm.RoadKit
namespace Jvm.Pilot.@@N@@
open Jvm Jvm.ClassFile Sem Op Lib Jvm.Free Jvm.Stand Jvm.LawKit Jvm.RoadKit Bundle Jvm.Pilot.@@N@@.Jvm.D
theorem own_pd0 : parseMethodDescriptor "(I)Z" = some ⟨[.int], some .boolean⟩ := by decide +kernel
theorem own_pn0 : plainName "com/example/einzug/einzug/rules/PermittedCharacters" = true := by first | (simp [plainName, overriddenIn]; done) | decide +kernel
theorem own_pn1 : plainName "com/example/einzug/einzug/rules/PermittedCharactersIsPermittedPinLaw" = true := by first | (simp [plainName, overriddenIn]; done) | decide +kernel

theorem own_len {args : Array Value} {s : State} {t : Term} {a : Addr} {cl : Cell} {n : Int32} (ht : t.eval args s none [] s = some (.ref a)) (ha : s.arrayAt? a = some cl) (h : (Jvm.Cond.eq (.length t) (.int n)).value args s none s [] = some true) : cl.slots.size < 2 ^ 31 ∧ cl.slots.size.toInt32 = n := by
  have e2 : (Term.int n).eval args s none [] s = some (.int n) := rfl
  by_cases q : cl.slots.size < 2 ^ 31
  · have e1 := len_f (args := args) (first := s) (o := none) (idx := []) ht ha q
    refine ⟨q, ?_⟩
    simpa [Jvm.Cond.value, e1, e2] using h
  · exfalso
    have e1 : (Term.length t).eval args s none [] s = none := by simp [Term.eval, ht, ha, q]
    simp [Jvm.Cond.value, e1] at h
theorem own_eqi {args : Array Value} {s : State} {idx : List Nat} {t : Term} {v : Int32} {x : Option Value} (e1 : t.eval args s none idx s = x) (h : (Jvm.Cond.eq t (.int v)).value args s none s idx = some true) : x = some (.int v) := by
  have e2 : (Term.int v).eval args s none idx s = some (.int v) := rfl
  simp only [Jvm.Cond.value, e1, e2] at h
  split at h <;> simp_all
theorem own_elem {args : Array Value} {s : State} {t : Term} {a : Addr} {cl : Cell} {j v : Int32} (ht : t.eval args s none [] s = some (.ref a)) (ha : s.arrayAt? a = some cl) (hj : ¬ j < 0) (h : (Jvm.Cond.eq (.elem t (.int j)) (.int v)).value args s none s [] = some true) : cl.slots[j.toNatClampNeg]? = some (.int v) :=
  own_eqi (elem_f (a := Term.int j) ht rfl ha hj) h
theorem own_back {k : Nat} (hk : k < 2 ^ 31) : k.toInt32.toNatClampNeg = k ∧ ¬ k.toInt32 < 0 := by
  have q := len_toInt hk
  refine ⟨by simp only [Int32.toNatClampNeg, q]; omega, ?_⟩
  rw [Int32.lt_iff_toInt_lt, q]; have : (0 : Int32).toInt = 0 := rfl
  omega
theorem own_elemI {args : Array Value} {s : State} {t : Term} {a : Addr} {cl : Cell} {v : Int32} {k : Nat} (ht : t.eval args s none [k] s = some (.ref a)) (ha : s.arrayAt? a = some cl) (hk : k < 2 ^ 31) (h : (Jvm.Cond.eq (.elem t (.index 0)) (.int v)).value args s none s [k] = some true) : cl.slots[k]? = some (.int v) := by
  have q := own_back hk
  have r := own_eqi (elem_f (a := Term.index 0) ht (rfl : (Term.index 0).eval args s none [k] s = some (.int k.toInt32)) ha q.2) h
  rwa [q.1] at r
theorem own_all3 {args : Array Value} {s : State} {t : Term} {a : Addr} {cl : Cell} {lo hi v : Int32} {k : Nat} (ht : ∀ idx, t.eval args s none idx s = some (.ref a)) (ha : s.arrayAt? a = some cl) (hs : cl.slots.size < 2 ^ 31)
    (h : (Jvm.Cond.all t (.or (.lt (.index 0) (.int lo)) (.or (.le (.int hi) (.index 0)) (.eq (.elem t (.index 0)) (.int v))))).value args s none s [] = some true)
    (hk : k < cl.slots.size) (h1 : ¬ k.toInt32 < lo) (h2 : ¬ hi ≤ k.toInt32) : cl.slots[k]? = some (.int v) := by
  have q := Cond.all_elim (ht []) ha h k hk
  have i0 : (Term.index 0).eval args s none [k] s = some (.int k.toInt32) := rfl
  have l0 : (Term.int lo).eval args s none [k] s = some (.int lo) := rfl
  have l1 : (Term.int hi).eval args s none [k] s = some (.int hi) := rfl
  rw [Cond.or_of_right (nay (Cond.lt_ints i0 l0) h1), Cond.or_of_right (nay (Cond.le_ints l1 i0) h2)] at q
  exact own_elemI (ht [k]) ha (by omega) q
theorem own_all2 {args : Array Value} {s : State} {t : Term} {a : Addr} {cl : Cell} {hi v : Int32} {k : Nat} (ht : ∀ idx, t.eval args s none idx s = some (.ref a)) (ha : s.arrayAt? a = some cl) (hs : cl.slots.size < 2 ^ 31)
    (h : (Jvm.Cond.all t (.or (.le (.int hi) (.index 0)) (.eq (.elem t (.index 0)) (.int v)))).value args s none s [] = some true)
    (hk : k < cl.slots.size) (h2 : ¬ hi ≤ k.toInt32) : cl.slots[k]? = some (.int v) := by
  have q := Cond.all_elim (ht []) ha h k hk
  have i0 : (Term.index 0).eval args s none [k] s = some (.int k.toInt32) := rfl
  have l1 : (Term.int hi).eval args s none [k] s = some (.int hi) := rfl
  rw [Cond.or_of_right (nay (Cond.le_ints l1 i0) h2)] at q
  exact own_elemI (ht [k]) ha (by omega) q
theorem own_nlt {k : Nat} {n : Int32} (hk : k < 2 ^ 31) (h : n.toInt ≤ (k : Int)) : ¬ k.toInt32 < n := by
  rw [Int32.lt_iff_toInt_lt, len_toInt hk]; omega
theorem own_nle {k : Nat} {n : Int32} (hk : k < 2 ^ 31) (h : (k : Int) < n.toInt) : ¬ n ≤ k.toInt32 := by
  rw [Int32.le_iff_toInt_le, len_toInt hk]; omega

def own_perm (k : Nat) : Int32 := if k < 32 then 0 else if k < 94 then 1 else if k < 95 then 0 else if k < 124 then 1 else if k < 125 then 0 else if k < 126 then 1 else if k < 127 then 1 else if k < 163 then 0 else if k < 164 then 1 else if k < 180 then 0 else if k < 181 then 1 else if k < 192 then 0 else if k < 193 then 1 else if k < 194 then 1 else if k < 195 then 1 else if k < 196 then 0 else if k < 197 then 1 else if k < 198 then 0 else if k < 199 then 0 else if k < 208 then 1 else if k < 209 then 0 else if k < 213 then 1 else if k < 214 then 0 else if k < 215 then 1 else if k < 216 then 0 else if k < 217 then 0 else if k < 221 then 1 else if k < 222 then 0 else if k < 223 then 0 else if k < 227 then 1 else if k < 228 then 0 else if k < 229 then 1 else if k < 230 then 0 else if k < 231 then 0 else if k < 240 then 1 else if k < 241 then 0 else if k < 245 then 1 else if k < 246 then 0 else if k < 247 then 1 else if k < 248 then 1 else if k < 249 then 0 else if k < 254 then 1 else if k < 255 then 0 else 0
set_option maxRecDepth 65536 in
set_option maxHeartbeats 40000000 in
theorem own_narrow {args : Array Value} {s : State} (hw : ∀ d ∈ tables_1, d.before args s = true) (hn : narrow_1.value args s none s [] = some true) : ∃ (aP : Addr) (cl : Cell), Sta s s.heap "com/example/einzug/einzug/rules/PermittedCharacters" "PERMITTED" "[Z" (.ref aP) ∧ Arr s s.heap aP cl .boolean ∧ cl.slots.size = 256 ∧ ∀ k, k < 256 → cl.slots[k]? = some (.int (own_perm k)) := by
  obtain ⟨x0, hn⟩ := and_e hn
  obtain ⟨x1, hn⟩ := and_e hn
  obtain ⟨x2, hn⟩ := and_e hn
  obtain ⟨x3, hn⟩ := and_e hn
  obtain ⟨x4, hn⟩ := and_e hn
  obtain ⟨x5, hn⟩ := and_e hn
  obtain ⟨x6, hn⟩ := and_e hn
  obtain ⟨x7, hn⟩ := and_e hn
  obtain ⟨x8, hn⟩ := and_e hn
  obtain ⟨x9, hn⟩ := and_e hn
  obtain ⟨x10, hn⟩ := and_e hn
  obtain ⟨x11, hn⟩ := and_e hn
  obtain ⟨x12, hn⟩ := and_e hn
  obtain ⟨x13, hn⟩ := and_e hn
  obtain ⟨x14, hn⟩ := and_e hn
  obtain ⟨x15, hn⟩ := and_e hn
  obtain ⟨x16, hn⟩ := and_e hn
  obtain ⟨x17, hn⟩ := and_e hn
  obtain ⟨x18, hn⟩ := and_e hn
  obtain ⟨x19, hn⟩ := and_e hn
  obtain ⟨x20, hn⟩ := and_e hn
  obtain ⟨x21, hn⟩ := and_e hn
  obtain ⟨x22, hn⟩ := and_e hn
  obtain ⟨x23, hn⟩ := and_e hn
  obtain ⟨x24, hn⟩ := and_e hn
  obtain ⟨x25, hn⟩ := and_e hn
  obtain ⟨x26, hn⟩ := and_e hn
  obtain ⟨x27, hn⟩ := and_e hn
  obtain ⟨x28, hn⟩ := and_e hn
  obtain ⟨x29, hn⟩ := and_e hn
  obtain ⟨x30, hn⟩ := and_e hn
  obtain ⟨x31, hn⟩ := and_e hn
  obtain ⟨x32, hn⟩ := and_e hn
  obtain ⟨x33, hn⟩ := and_e hn
  obtain ⟨x34, hn⟩ := and_e hn
  obtain ⟨x35, hn⟩ := and_e hn
  obtain ⟨x36, hn⟩ := and_e hn
  obtain ⟨x37, hn⟩ := and_e hn
  obtain ⟨x38, hn⟩ := and_e hn
  obtain ⟨x39, hn⟩ := and_e hn
  obtain ⟨x40, hn⟩ := and_e hn
  obtain ⟨x41, hn⟩ := and_e hn
  obtain ⟨x42, hn⟩ := and_e hn
  obtain ⟨x43, hn⟩ := and_e hn
  obtain ⟨x44, hn⟩ := and_e hn
  obtain ⟨aP, ev⟩ := arr_v x0
  have hev : ∀ idx, (Term.static "com/example/einzug/einzug/rules/PermittedCharacters" "PERMITTED" "[Z").eval args s none idx s = some (.ref aP) := fun _ => ev
  obtain ⟨cl, Ar⟩ := Arr.start ev x0
  have ha : s.arrayAt? aP = some cl := Ar.fin (Vm.Alike.refl _)
  obtain ⟨hs, hl⟩ := own_len ev ha x1
  have hsz : cl.slots.size = 256 := by have := len_toInt hs; rw [hl] at this; have h2 : (256 : Int32).toInt = 256 := rfl; omega
  have F0 : ∀ k, 0 ≤ k → k < 32 → cl.slots[k]? = some (.int 0) := fun k h1 h2 => own_all2 hev ha hs x2 (by omega) (own_nle (by omega) (by show (k : Int) < 32; omega))
  have F1 : ∀ k, 32 ≤ k → k < 94 → cl.slots[k]? = some (.int 1) := fun k h1 h2 => own_all3 hev ha hs x3 (by omega) (own_nlt (by omega) (by show (32 : Int) ≤ k; omega)) (own_nle (by omega) (by show (k : Int) < 94; omega))
  have F2 : ∀ k, 94 ≤ k → k < 95 → cl.slots[k]? = some (.int 0) := fun k h1 h2 => by
    obtain rfl : k = 94 := by omega
    exact own_elem (j := 94) ev ha (by decide) x4
  have F3 : ∀ k, 95 ≤ k → k < 124 → cl.slots[k]? = some (.int 1) := fun k h1 h2 => own_all3 hev ha hs x5 (by omega) (own_nlt (by omega) (by show (95 : Int) ≤ k; omega)) (own_nle (by omega) (by show (k : Int) < 124; omega))
  have F4 : ∀ k, 124 ≤ k → k < 125 → cl.slots[k]? = some (.int 0) := fun k h1 h2 => by
    obtain rfl : k = 124 := by omega
    exact own_elem (j := 124) ev ha (by decide) x6
  have F5 : ∀ k, 125 ≤ k → k < 126 → cl.slots[k]? = some (.int 1) := fun k h1 h2 => by
    obtain rfl : k = 125 := by omega
    exact own_elem (j := 125) ev ha (by decide) x7
  have F6 : ∀ k, 126 ≤ k → k < 127 → cl.slots[k]? = some (.int 1) := fun k h1 h2 => by
    obtain rfl : k = 126 := by omega
    exact own_elem (j := 126) ev ha (by decide) x8
  have F7 : ∀ k, 127 ≤ k → k < 163 → cl.slots[k]? = some (.int 0) := fun k h1 h2 => own_all3 hev ha hs x9 (by omega) (own_nlt (by omega) (by show (127 : Int) ≤ k; omega)) (own_nle (by omega) (by show (k : Int) < 163; omega))
  have F8 : ∀ k, 163 ≤ k → k < 164 → cl.slots[k]? = some (.int 1) := fun k h1 h2 => by
    obtain rfl : k = 163 := by omega
    exact own_elem (j := 163) ev ha (by decide) x10
  have F9 : ∀ k, 164 ≤ k → k < 180 → cl.slots[k]? = some (.int 0) := fun k h1 h2 => own_all3 hev ha hs x11 (by omega) (own_nlt (by omega) (by show (164 : Int) ≤ k; omega)) (own_nle (by omega) (by show (k : Int) < 180; omega))
  have F10 : ∀ k, 180 ≤ k → k < 181 → cl.slots[k]? = some (.int 1) := fun k h1 h2 => by
    obtain rfl : k = 180 := by omega
    exact own_elem (j := 180) ev ha (by decide) x12
  have F11 : ∀ k, 181 ≤ k → k < 192 → cl.slots[k]? = some (.int 0) := fun k h1 h2 => own_all3 hev ha hs x13 (by omega) (own_nlt (by omega) (by show (181 : Int) ≤ k; omega)) (own_nle (by omega) (by show (k : Int) < 192; omega))
  have F12 : ∀ k, 192 ≤ k → k < 193 → cl.slots[k]? = some (.int 1) := fun k h1 h2 => by
    obtain rfl : k = 192 := by omega
    exact own_elem (j := 192) ev ha (by decide) x14
  have F13 : ∀ k, 193 ≤ k → k < 194 → cl.slots[k]? = some (.int 1) := fun k h1 h2 => by
    obtain rfl : k = 193 := by omega
    exact own_elem (j := 193) ev ha (by decide) x15
  have F14 : ∀ k, 194 ≤ k → k < 195 → cl.slots[k]? = some (.int 1) := fun k h1 h2 => by
    obtain rfl : k = 194 := by omega
    exact own_elem (j := 194) ev ha (by decide) x16
  have F15 : ∀ k, 195 ≤ k → k < 196 → cl.slots[k]? = some (.int 0) := fun k h1 h2 => by
    obtain rfl : k = 195 := by omega
    exact own_elem (j := 195) ev ha (by decide) x17
  have F16 : ∀ k, 196 ≤ k → k < 197 → cl.slots[k]? = some (.int 1) := fun k h1 h2 => by
    obtain rfl : k = 196 := by omega
    exact own_elem (j := 196) ev ha (by decide) x18
  have F17 : ∀ k, 197 ≤ k → k < 198 → cl.slots[k]? = some (.int 0) := fun k h1 h2 => by
    obtain rfl : k = 197 := by omega
    exact own_elem (j := 197) ev ha (by decide) x19
  have F18 : ∀ k, 198 ≤ k → k < 199 → cl.slots[k]? = some (.int 0) := fun k h1 h2 => by
    obtain rfl : k = 198 := by omega
    exact own_elem (j := 198) ev ha (by decide) x20
  have F19 : ∀ k, 199 ≤ k → k < 208 → cl.slots[k]? = some (.int 1) := fun k h1 h2 => own_all3 hev ha hs x21 (by omega) (own_nlt (by omega) (by show (199 : Int) ≤ k; omega)) (own_nle (by omega) (by show (k : Int) < 208; omega))
  have F20 : ∀ k, 208 ≤ k → k < 209 → cl.slots[k]? = some (.int 0) := fun k h1 h2 => by
    obtain rfl : k = 208 := by omega
    exact own_elem (j := 208) ev ha (by decide) x22
  have F21 : ∀ k, 209 ≤ k → k < 213 → cl.slots[k]? = some (.int 1) := fun k h1 h2 => own_all3 hev ha hs x23 (by omega) (own_nlt (by omega) (by show (209 : Int) ≤ k; omega)) (own_nle (by omega) (by show (k : Int) < 213; omega))
  have F22 : ∀ k, 213 ≤ k → k < 214 → cl.slots[k]? = some (.int 0) := fun k h1 h2 => by
    obtain rfl : k = 213 := by omega
    exact own_elem (j := 213) ev ha (by decide) x24
  have F23 : ∀ k, 214 ≤ k → k < 215 → cl.slots[k]? = some (.int 1) := fun k h1 h2 => by
    obtain rfl : k = 214 := by omega
    exact own_elem (j := 214) ev ha (by decide) x25
  have F24 : ∀ k, 215 ≤ k → k < 216 → cl.slots[k]? = some (.int 0) := fun k h1 h2 => by
    obtain rfl : k = 215 := by omega
    exact own_elem (j := 215) ev ha (by decide) x26
  have F25 : ∀ k, 216 ≤ k → k < 217 → cl.slots[k]? = some (.int 0) := fun k h1 h2 => by
    obtain rfl : k = 216 := by omega
    exact own_elem (j := 216) ev ha (by decide) x27
  have F26 : ∀ k, 217 ≤ k → k < 221 → cl.slots[k]? = some (.int 1) := fun k h1 h2 => own_all3 hev ha hs x28 (by omega) (own_nlt (by omega) (by show (217 : Int) ≤ k; omega)) (own_nle (by omega) (by show (k : Int) < 221; omega))
  have F27 : ∀ k, 221 ≤ k → k < 222 → cl.slots[k]? = some (.int 0) := fun k h1 h2 => by
    obtain rfl : k = 221 := by omega
    exact own_elem (j := 221) ev ha (by decide) x29
  have F28 : ∀ k, 222 ≤ k → k < 223 → cl.slots[k]? = some (.int 0) := fun k h1 h2 => by
    obtain rfl : k = 222 := by omega
    exact own_elem (j := 222) ev ha (by decide) x30
  have F29 : ∀ k, 223 ≤ k → k < 227 → cl.slots[k]? = some (.int 1) := fun k h1 h2 => own_all3 hev ha hs x31 (by omega) (own_nlt (by omega) (by show (223 : Int) ≤ k; omega)) (own_nle (by omega) (by show (k : Int) < 227; omega))
  have F30 : ∀ k, 227 ≤ k → k < 228 → cl.slots[k]? = some (.int 0) := fun k h1 h2 => by
    obtain rfl : k = 227 := by omega
    exact own_elem (j := 227) ev ha (by decide) x32
  have F31 : ∀ k, 228 ≤ k → k < 229 → cl.slots[k]? = some (.int 1) := fun k h1 h2 => by
    obtain rfl : k = 228 := by omega
    exact own_elem (j := 228) ev ha (by decide) x33
  have F32 : ∀ k, 229 ≤ k → k < 230 → cl.slots[k]? = some (.int 0) := fun k h1 h2 => by
    obtain rfl : k = 229 := by omega
    exact own_elem (j := 229) ev ha (by decide) x34
  have F33 : ∀ k, 230 ≤ k → k < 231 → cl.slots[k]? = some (.int 0) := fun k h1 h2 => by
    obtain rfl : k = 230 := by omega
    exact own_elem (j := 230) ev ha (by decide) x35
  have F34 : ∀ k, 231 ≤ k → k < 240 → cl.slots[k]? = some (.int 1) := fun k h1 h2 => own_all3 hev ha hs x36 (by omega) (own_nlt (by omega) (by show (231 : Int) ≤ k; omega)) (own_nle (by omega) (by show (k : Int) < 240; omega))
  have F35 : ∀ k, 240 ≤ k → k < 241 → cl.slots[k]? = some (.int 0) := fun k h1 h2 => by
    obtain rfl : k = 240 := by omega
    exact own_elem (j := 240) ev ha (by decide) x37
  have F36 : ∀ k, 241 ≤ k → k < 245 → cl.slots[k]? = some (.int 1) := fun k h1 h2 => own_all3 hev ha hs x38 (by omega) (own_nlt (by omega) (by show (241 : Int) ≤ k; omega)) (own_nle (by omega) (by show (k : Int) < 245; omega))
  have F37 : ∀ k, 245 ≤ k → k < 246 → cl.slots[k]? = some (.int 0) := fun k h1 h2 => by
    obtain rfl : k = 245 := by omega
    exact own_elem (j := 245) ev ha (by decide) x39
  have F38 : ∀ k, 246 ≤ k → k < 247 → cl.slots[k]? = some (.int 1) := fun k h1 h2 => by
    obtain rfl : k = 246 := by omega
    exact own_elem (j := 246) ev ha (by decide) x40
  have F39 : ∀ k, 247 ≤ k → k < 248 → cl.slots[k]? = some (.int 1) := fun k h1 h2 => by
    obtain rfl : k = 247 := by omega
    exact own_elem (j := 247) ev ha (by decide) x41
  have F40 : ∀ k, 248 ≤ k → k < 249 → cl.slots[k]? = some (.int 0) := fun k h1 h2 => by
    obtain rfl : k = 248 := by omega
    exact own_elem (j := 248) ev ha (by decide) x42
  have F41 : ∀ k, 249 ≤ k → k < 254 → cl.slots[k]? = some (.int 1) := fun k h1 h2 => own_all3 hev ha hs x43 (by omega) (own_nlt (by omega) (by show (249 : Int) ≤ k; omega)) (own_nle (by omega) (by show (k : Int) < 254; omega))
  have F42 : ∀ k, 254 ≤ k → k < 255 → cl.slots[k]? = some (.int 0) := fun k h1 h2 => by
    obtain rfl : k = 254 := by omega
    exact own_elem (j := 254) ev ha (by decide) x44
  have F43 : ∀ k, 255 ≤ k → k < 256 → cl.slots[k]? = some (.int 0) := fun k h1 h2 => by
    obtain rfl : k = 255 := by omega
    exact own_elem (j := 255) ev ha (by decide) hn
  refine ⟨aP, cl, Sta.start ev (Or.inr ⟨(hw _ (List.mem_of_getElem? (i := 2) rfl)), (hw _ (List.mem_of_getElem? (i := 5) rfl))⟩), Ar, hsz, fun k hk => ?_⟩
  unfold own_perm
  by_cases c0 : k < 32
  · rw [if_pos c0]; exact F0 k (by omega) c0
  rw [if_neg c0]
  by_cases c1 : k < 94
  · rw [if_pos c1]; exact F1 k (by omega) c1
  rw [if_neg c1]
  by_cases c2 : k < 95
  · rw [if_pos c2]; exact F2 k (by omega) c2
  rw [if_neg c2]
  by_cases c3 : k < 124
  · rw [if_pos c3]; exact F3 k (by omega) c3
  rw [if_neg c3]
  by_cases c4 : k < 125
  · rw [if_pos c4]; exact F4 k (by omega) c4
  rw [if_neg c4]
  by_cases c5 : k < 126
  · rw [if_pos c5]; exact F5 k (by omega) c5
  rw [if_neg c5]
  by_cases c6 : k < 127
  · rw [if_pos c6]; exact F6 k (by omega) c6
  rw [if_neg c6]
  by_cases c7 : k < 163
  · rw [if_pos c7]; exact F7 k (by omega) c7
  rw [if_neg c7]
  by_cases c8 : k < 164
  · rw [if_pos c8]; exact F8 k (by omega) c8
  rw [if_neg c8]
  by_cases c9 : k < 180
  · rw [if_pos c9]; exact F9 k (by omega) c9
  rw [if_neg c9]
  by_cases c10 : k < 181
  · rw [if_pos c10]; exact F10 k (by omega) c10
  rw [if_neg c10]
  by_cases c11 : k < 192
  · rw [if_pos c11]; exact F11 k (by omega) c11
  rw [if_neg c11]
  by_cases c12 : k < 193
  · rw [if_pos c12]; exact F12 k (by omega) c12
  rw [if_neg c12]
  by_cases c13 : k < 194
  · rw [if_pos c13]; exact F13 k (by omega) c13
  rw [if_neg c13]
  by_cases c14 : k < 195
  · rw [if_pos c14]; exact F14 k (by omega) c14
  rw [if_neg c14]
  by_cases c15 : k < 196
  · rw [if_pos c15]; exact F15 k (by omega) c15
  rw [if_neg c15]
  by_cases c16 : k < 197
  · rw [if_pos c16]; exact F16 k (by omega) c16
  rw [if_neg c16]
  by_cases c17 : k < 198
  · rw [if_pos c17]; exact F17 k (by omega) c17
  rw [if_neg c17]
  by_cases c18 : k < 199
  · rw [if_pos c18]; exact F18 k (by omega) c18
  rw [if_neg c18]
  by_cases c19 : k < 208
  · rw [if_pos c19]; exact F19 k (by omega) c19
  rw [if_neg c19]
  by_cases c20 : k < 209
  · rw [if_pos c20]; exact F20 k (by omega) c20
  rw [if_neg c20]
  by_cases c21 : k < 213
  · rw [if_pos c21]; exact F21 k (by omega) c21
  rw [if_neg c21]
  by_cases c22 : k < 214
  · rw [if_pos c22]; exact F22 k (by omega) c22
  rw [if_neg c22]
  by_cases c23 : k < 215
  · rw [if_pos c23]; exact F23 k (by omega) c23
  rw [if_neg c23]
  by_cases c24 : k < 216
  · rw [if_pos c24]; exact F24 k (by omega) c24
  rw [if_neg c24]
  by_cases c25 : k < 217
  · rw [if_pos c25]; exact F25 k (by omega) c25
  rw [if_neg c25]
  by_cases c26 : k < 221
  · rw [if_pos c26]; exact F26 k (by omega) c26
  rw [if_neg c26]
  by_cases c27 : k < 222
  · rw [if_pos c27]; exact F27 k (by omega) c27
  rw [if_neg c27]
  by_cases c28 : k < 223
  · rw [if_pos c28]; exact F28 k (by omega) c28
  rw [if_neg c28]
  by_cases c29 : k < 227
  · rw [if_pos c29]; exact F29 k (by omega) c29
  rw [if_neg c29]
  by_cases c30 : k < 228
  · rw [if_pos c30]; exact F30 k (by omega) c30
  rw [if_neg c30]
  by_cases c31 : k < 229
  · rw [if_pos c31]; exact F31 k (by omega) c31
  rw [if_neg c31]
  by_cases c32 : k < 230
  · rw [if_pos c32]; exact F32 k (by omega) c32
  rw [if_neg c32]
  by_cases c33 : k < 231
  · rw [if_pos c33]; exact F33 k (by omega) c33
  rw [if_neg c33]
  by_cases c34 : k < 240
  · rw [if_pos c34]; exact F34 k (by omega) c34
  rw [if_neg c34]
  by_cases c35 : k < 241
  · rw [if_pos c35]; exact F35 k (by omega) c35
  rw [if_neg c35]
  by_cases c36 : k < 245
  · rw [if_pos c36]; exact F36 k (by omega) c36
  rw [if_neg c36]
  by_cases c37 : k < 246
  · rw [if_pos c37]; exact F37 k (by omega) c37
  rw [if_neg c37]
  by_cases c38 : k < 247
  · rw [if_pos c38]; exact F38 k (by omega) c38
  rw [if_neg c38]
  by_cases c39 : k < 248
  · rw [if_pos c39]; exact F39 k (by omega) c39
  rw [if_neg c39]
  by_cases c40 : k < 249
  · rw [if_pos c40]; exact F40 k (by omega) c40
  rw [if_neg c40]
  by_cases c41 : k < 254
  · rw [if_pos c41]; exact F41 k (by omega) c41
  rw [if_neg c41]
  by_cases c42 : k < 255
  · rw [if_pos c42]; exact F42 k (by omega) c42
  rw [if_neg c42]
  exact F43 k (by omega) hk

def own_isp (c : Int32) : Int32 := if c < 0 then 0 else if c < 256 then (if own_perm c.toNatClampNeg = 0 then 0 else 1) else 0
theorem own_inb {c : Int32} (h0 : ¬ c < 0) (h1 : c < 256) : c.toNatClampNeg < 256 := by
  rw [Int32.lt_iff_toInt_lt] at h0 h1; have a : (0 : Int32).toInt = 0 := rfl
  have b : (256 : Int32).toInt = 256 := rfl
  simp only [Int32.toNatClampNeg]; omega

theorem d1_0 : decode prog_184_method_2_code 0 = .ok (.iload_n 0, 1) := by decide +kernel
theorem d1_1 : decode prog_184_method_2_code 1 = .ok (.ifCond .lt 23, 3) := by decide +kernel
theorem d1_4 : decode prog_184_method_2_code 4 = .ok (.iload_n 0, 1) := by decide +kernel
theorem d1_5 : decode prog_184_method_2_code 5 = .ok (.getstatic 7, 3) := by decide +kernel
theorem d1_8 : decode prog_184_method_2_code 8 = .ok (.arraylength, 1) := by decide +kernel
theorem d1_9 : decode prog_184_method_2_code 9 = .ok (.if_icmp .ge 15, 3) := by decide +kernel
theorem d1_12 : decode prog_184_method_2_code 12 = .ok (.getstatic 7, 3) := by decide +kernel
theorem d1_15 : decode prog_184_method_2_code 15 = .ok (.iload_n 0, 1) := by decide +kernel
theorem d1_16 : decode prog_184_method_2_code 16 = .ok (.baload, 1) := by decide +kernel
theorem d1_17 : decode prog_184_method_2_code 17 = .ok (.ifCond .eq 7, 3) := by decide +kernel
theorem d1_20 : decode prog_184_method_2_code 20 = .ok (.iconst 1, 1) := by decide +kernel
theorem d1_21 : decode prog_184_method_2_code 21 = .ok (.goto 4, 3) := by decide +kernel
theorem d1_24 : decode prog_184_method_2_code 24 = .ok (.iconst 0, 1) := by decide +kernel
theorem d1_25 : decode prog_184_method_2_code 25 = .ok (.ireturn, 1) := by decide +kernel
theorem ef_1 (m : MethodId) (p1 : Int32) : entryFrame m #[(.int p1)] 1 = mkF m 0 #[.val (.int p1)] [] := by first | (simp [entryFrame, mkF, argsToLocals, Value.category]; done) | rfl
def Q1 (Z : State) (p1 : Int32) (aP : Addr) (clP : Cell) (h0 : Heap) (n0 : Nat) (v : Option Value) (h : Heap) (L : List Loc) : Prop := v = some (.int (own_isp p1)) ∧ Fr n0 L ∧ h = h0
set_option maxRecDepth 65536 in
set_option maxHeartbeats 40000000 in
theorem rm1 (l : Launch) (Z : State) (a0 : Array Value) (hw : ∀ d ∈ tables_1, d.before a0 Z = true) (ws : List Jvm.Cond) (p1 : Int32) (aP : Addr) (clP : Cell) (h0 : Heap) (n0 : Nat) (Z0 : n0 ≤ h0.size) (S_P : Sta Z h0 "com/example/einzug/einzug/rules/PermittedCharacters" "PERMITTED" "[Z" (.ref aP)) (Ar_P : Arr Z h0 aP clP .boolean) (sz_P : clP.slots.size = 256) (tab_P : ∀ k, k < 256 → clP.slots[k]? = some (.int (own_perm k))) :
    MetFree l (⟨"com/example/einzug/einzug/rules/PermittedCharacters", "isPermitted", "(I)Z"⟩ : MethodName) (head1 (Jvm.Cond.code (⟨"com/example/einzug/einzug/rules/PermittedCharacters", "isPermitted", "(I)Z"⟩ : MethodName) prog_184_method_2_code 1 (some .boolean) :: ws) ({ frames := 0, cells := 0, slots := 0, locals := 0 } : Room)) (fun a U => a = #[(.int p1)] ∧ Z.Warmed39 U.vm ∧ U.heap = h0) (fun _ _ _ _ _ => True) (fun _ U o U' => ∃ v L, o = .returned v ∧ Q1 Z p1 aP clP h0 n0 v U'.heap L ∧ FrameEnd U o U' L ({ frames := 0, cells := 0, slots := 0, locals := 0 } : Room).cells ({ frames := 0, cells := 0, slots := 0, locals := 0 } : Room).slots) := by
  refine MetFree.of_bodySF (plainFor_of_name own_pn0) hisR ?_
  intro p e s m args below meth c s₁ Bd hml0 hP hK
  obtain ⟨rfl, hZ, hh⟩ := hP
  have hx := Bd.exec
  have hby := Bd.bytes
  have hml : c.maxLocals = 1 := hml0
  have hown : s.vm.findClass "com/example/einzug/einzug/rules/PermittedCharacters" = some m.cls := findClass_of_methodNamed Bd.named
  have hnm := (name_of_methodNamed Bd.named Bd.method).1
  have X0 : Stand p l e ({ frames := 0, cells := 0, slots := 0, locals := 0 } : Room) s m #[(.int p1)] below meth c s₁ [] 0 0 := Stand.of_body Bd
  have e0 : s₁.heap = h0 := by rw [← hh, Bd.state]; rfl
  have N0 := Fr.nil n0
  refine own_top (Q := Q1 Z p1 aP clP h0 n0) (ef_1 m p1) ?_
  show own_G p.tables e below s₁ (mkF m 0 #[.val (.int p1)] []) _
  refine own_go (fun t k => XS.iloadN X0.here hx rfl (hb hby d1_0) rfl k) ?_
  show own_G p.tables e below s₁ (mkF m 1 #[.val (.int p1)] [(.int p1)]) _
  by_cases hc1_1 : p1 < (0 : Int32)
  · skip
    refine own_go (fun t k => XS.ifYes X0.here hx rfl (pc0 := 1) (pc' := 24) rfl (hb hby d1_1) rfl ((if0 _ _).trans (tlt hc1_1).1) (by decide) (by decide) k) ?_
    show own_G p.tables e below s₁ (mkF m 24 #[.val (.int p1)] []) _
    refine own_go (fun t k => XS.iconst X0.here hx rfl (hb hby d1_24) k) ?_
    show own_G p.tables e below s₁ (mkF m 25 #[.val (.int p1)] [(.int (0 : Int32))]) _
    exact own_end (v := some (.int (0 : Int32))) X0 Bd.notSynchronized (fun h => by rw [Bd.returns] at h; cases h) (fun fs hr => retN X0 hx (z := (0 : Int32)) (t := .boolean) Bd.returns (by simp) (hb hby d1_25) hr) e0 ⟨congrArg (fun z => some (Value.int z)) (by unfold own_isp; rw [if_pos hc1_1]), N0, rfl⟩ (by decide) (by decide)
  · skip
    refine own_go (fun t k => XS.ifNo X0.here hx rfl (hb hby d1_1) rfl ((if0 _ _).trans (flt hc1_1).1) k) ?_
    show own_G p.tables e below s₁ (mkF m 4 #[.val (.int p1)] []) _
    refine own_go (fun t k => XS.iloadN X0.here hx rfl (hb hby d1_4) rfl k) ?_
    show own_G p.tables e below s₁ (mkF m 5 #[.val (.int p1)] [(.int p1)]) _
    obtain ⟨T2, X2, e2, st2⟩ := getS2 X0 hx hZ hown (host := "") (Or.inl (hw _ (List.mem_of_getElem? (i := 4) rfl))) Via.refl e0 S_P (g := (mkF m 5 #[.val (.int p1)] [(.int p1)])) rfl (hb hby d1_5)
    refine own_go st2 ?_
    show own_G p.tables e below T2 (mkF m 8 #[.val (.int p1)] [(.ref aP), (.int p1)]) _
    refine own_go (fun t k => X2.arraylength hx (by rw [e2]; exact Ar_P.1) (State.isArrayOf_alike hZ.alike Ar_P.2.1) (g := (mkF m 8 #[.val (.int p1)] [(.ref aP), (.int p1)])) rfl rfl (hb hby d1_8) _ k) ?_
    show own_G p.tables e below T2 (mkF m 9 #[.val (.int p1)] [(.int clP.slots.size.toInt32), (.int p1)]) _
    rw [show clP.slots.size.toInt32 = 256 by rw [sz_P]; rfl]
    show own_G p.tables e below T2 (mkF m 9 #[.val (.int p1)] [(.int (256 : Int32)), (.int p1)]) _
    by_cases hc9_3 : p1 < (256 : Int32)
    · skip
      refine own_go (fun t k => XS.icmpNo X2.here hx rfl (hb hby d1_9) rfl (tlt hc9_3).2.1 k) ?_
      show own_G p.tables e below T2 (mkF m 12 #[.val (.int p1)] []) _
      obtain ⟨T4, X4, e4, st4⟩ := getS2 X2 hx hZ hown (host := "") (Or.inl (hw _ (List.mem_of_getElem? (i := 4) rfl))) Via.refl e2 S_P (g := (mkF m 12 #[.val (.int p1)] [])) rfl (hb hby d1_12)
      refine own_go st4 ?_
      show own_G p.tables e below T4 (mkF m 15 #[.val (.int p1)] [(.ref aP)]) _
      refine own_go (fun t k => XS.iloadN X4.here hx rfl (hb hby d1_15) rfl k) ?_
      show own_G p.tables e below T4 (mkF m 16 #[.val (.int p1)] [(.int p1), (.ref aP)]) _
      refine own_go (fun t k => X4.baloadBooleans hx (j := p1) (v := (.int (own_perm (p1).toNatClampNeg))) (by rw [e4]; exact Ar_P.1) (State.isArrayOf_alike hZ.alike Ar_P.2.1) Ar_P.2.2 (by rw [sz_P]; rintro (q | q); exact hc1_1 q; have := own_inb hc1_1 hc9_3; omega) (tab_P _ (own_inb hc1_1 hc9_3)) (g := (mkF m 16 #[.val (.int p1)] [(.int p1), (.ref aP)])) rfl rfl (hb hby d1_16) _ k) ?_
      show own_G p.tables e below T4 (mkF m 17 #[.val (.int p1)] [(.int (own_perm (p1).toNatClampNeg))]) _
      by_cases hc17_5 : (own_perm (p1).toNatClampNeg) = (0 : Int32)
      · skip
        refine own_go (fun t k => XS.ifYes X4.here hx rfl (pc0 := 17) (pc' := 24) rfl (hb hby d1_17) rfl ((if0 _ _).trans (teq hc17_5).1) (by decide) (by decide) k) ?_
        show own_G p.tables e below T4 (mkF m 24 #[.val (.int p1)] []) _
        refine own_go (fun t k => XS.iconst X4.here hx rfl (hb hby d1_24) k) ?_
        show own_G p.tables e below T4 (mkF m 25 #[.val (.int p1)] [(.int (0 : Int32))]) _
        exact own_end (v := some (.int (0 : Int32))) X4 Bd.notSynchronized (fun h => by rw [Bd.returns] at h; cases h) (fun fs hr => retN X4 hx (z := (0 : Int32)) (t := .boolean) Bd.returns (by simp) (hb hby d1_25) hr) e4 ⟨congrArg (fun z => some (Value.int z)) (by unfold own_isp; rw [if_neg hc1_1, if_pos hc9_3, if_pos hc17_5]), N0, rfl⟩ (by decide) (by decide)
      · skip
        refine own_go (fun t k => XS.ifNo X4.here hx rfl (hb hby d1_17) rfl ((if0 _ _).trans (feq hc17_5).1) k) ?_
        show own_G p.tables e below T4 (mkF m 20 #[.val (.int p1)] []) _
        refine own_go (fun t k => XS.iconst X4.here hx rfl (hb hby d1_20) k) ?_
        show own_G p.tables e below T4 (mkF m 21 #[.val (.int p1)] [(.int (1 : Int32))]) _
        refine own_go (fun t k => XS.goto X4.here hx rfl (pc0 := 21) (pc' := 25) rfl (hb hby d1_21) (by decide) (by decide) k) ?_
        show own_G p.tables e below T4 (mkF m 25 #[.val (.int p1)] [(.int (1 : Int32))]) _
        exact own_end (v := some (.int (1 : Int32))) X4 Bd.notSynchronized (fun h => by rw [Bd.returns] at h; cases h) (fun fs hr => retN X4 hx (z := (1 : Int32)) (t := .boolean) Bd.returns (by simp) (hb hby d1_25) hr) e4 ⟨congrArg (fun z => some (Value.int z)) (by unfold own_isp; rw [if_neg hc1_1, if_pos hc9_3, if_neg hc17_5]), N0, rfl⟩ (by decide) (by decide)
    · skip
      refine own_go (fun t k => XS.icmpYes X2.here hx rfl (pc0 := 9) (pc' := 24) rfl (hb hby d1_9) rfl (flt hc9_3).2.1 (by decide) (by decide) k) ?_
      show own_G p.tables e below T2 (mkF m 24 #[.val (.int p1)] []) _
      refine own_go (fun t k => XS.iconst X2.here hx rfl (hb hby d1_24) k) ?_
      show own_G p.tables e below T2 (mkF m 25 #[.val (.int p1)] [(.int (0 : Int32))]) _
      exact own_end (v := some (.int (0 : Int32))) X2 Bd.notSynchronized (fun h => by rw [Bd.returns] at h; cases h) (fun fs hr => retN X2 hx (z := (0 : Int32)) (t := .boolean) Bd.returns (by simp) (hb hby d1_25) hr) e2 ⟨congrArg (fun z => some (Value.int z)) (by unfold own_isp; rw [if_neg hc1_1, if_neg hc9_3]), N0, rfl⟩ (by decide) (by decide)

def own_ref4 (c : Int32) : Int32 := if c < 224 then 0 else if 253 < c then 0 else if c = 227 then 0 else if c = 229 then 0 else if c = 230 then 0 else if c = 240 then 0 else if c = 245 then 0 else if c = 248 then 0 else 1
def own_ref3 (c : Int32) : Int32 := if c < 192 then own_ref4 c else if 223 < c then own_ref4 c else if c = 195 then 0 else if c = 197 then 0 else if c = 198 then 0 else if c = 208 then 0 else if c = 213 then 0 else if c = 215 then 0 else if c = 216 then 0 else if c = 221 then 0 else if c = 222 then 0 else 1
def own_ref2 (c : Int32) : Int32 := if c = 163 then 1 else if c = 180 then 1 else if c = 247 then 1 else own_ref3 c
def own_ref (c : Int32) : Int32 := if c < 0 then 0 else if 255 < c then 0 else if c < 32 then own_ref2 c else if 126 < c then own_ref2 c else if c = 94 then 0 else if c = 124 then 0 else 1
theorem own_tabs : ∀ k, k < 256 → own_isp (Int32.ofNat k) = own_ref (Int32.ofNat k) := by decide +kernel
theorem own_same (c : Int32) : own_isp c = own_ref c := by
  by_cases h0 : c < 0
  · simp only [own_isp, own_ref, h0, if_true]
  by_cases h1 : c < 256
  · have a : (0 : Int) ≤ c.toInt := Int32.le_iff_toInt_le.mp (Int32.not_lt.mp h0)
    have b : c.toInt < 256 := Int32.lt_iff_toInt_lt.mp h1
    have e : c = Int32.ofNat c.toInt.toNat := by
      apply Int32.toInt_inj.mp
      have q := len_toInt (n := c.toInt.toNat) (by omega)
      show c.toInt = c.toInt.toNat.toInt32.toInt
      rw [q]; omega
    rw [e]; exact own_tabs _ (by omega)
  · have h2 : (255 : Int32) < c := by
      rw [Int32.lt_iff_toInt_lt] at h1 ⊢; have b : (256 : Int32).toInt = 256 := rfl
      have b' : (255 : Int32).toInt = 255 := rfl
      omega
    simp only [own_isp, own_ref, h0, h1, h2, if_true, if_false]

theorem d2_0 : decode method_3_code 0 = .ok (.iload_n 0, 1) := by decide +kernel
theorem d2_1 : decode method_3_code 1 = .ok (.ifCond .lt 10, 3) := by decide +kernel
theorem d2_4 : decode method_3_code 4 = .ok (.iload_n 0, 1) := by decide +kernel
theorem d2_5 : decode method_3_code 5 = .ok (.sipush 255, 3) := by decide +kernel
theorem d2_8 : decode method_3_code 8 = .ok (.if_icmp .le 5, 3) := by decide +kernel
theorem d2_11 : decode method_3_code 11 = .ok (.iconst 0, 1) := by decide +kernel
theorem d2_12 : decode method_3_code 12 = .ok (.ireturn, 1) := by decide +kernel
theorem d2_13 : decode method_3_code 13 = .ok (.iload_n 0, 1) := by decide +kernel
theorem d2_14 : decode method_3_code 14 = .ok (.bipush 32, 2) := by decide +kernel
theorem d2_16 : decode method_3_code 16 = .ok (.if_icmp .lt 27, 3) := by decide +kernel
theorem d2_19 : decode method_3_code 19 = .ok (.iload_n 0, 1) := by decide +kernel
theorem d2_20 : decode method_3_code 20 = .ok (.bipush 126, 2) := by decide +kernel
theorem d2_22 : decode method_3_code 22 = .ok (.if_icmp .gt 21, 3) := by decide +kernel
theorem d2_25 : decode method_3_code 25 = .ok (.iload_n 0, 1) := by decide +kernel
theorem d2_26 : decode method_3_code 26 = .ok (.bipush 94, 2) := by decide +kernel
theorem d2_28 : decode method_3_code 28 = .ok (.if_icmp .eq 13, 3) := by decide +kernel
theorem d2_31 : decode method_3_code 31 = .ok (.iload_n 0, 1) := by decide +kernel
theorem d2_32 : decode method_3_code 32 = .ok (.bipush 124, 2) := by decide +kernel
theorem d2_34 : decode method_3_code 34 = .ok (.if_icmp .eq 7, 3) := by decide +kernel
theorem d2_37 : decode method_3_code 37 = .ok (.iconst 1, 1) := by decide +kernel
theorem d2_38 : decode method_3_code 38 = .ok (.goto 4, 3) := by decide +kernel
theorem d2_41 : decode method_3_code 41 = .ok (.iconst 0, 1) := by decide +kernel
theorem d2_42 : decode method_3_code 42 = .ok (.ireturn, 1) := by decide +kernel
theorem d2_43 : decode method_3_code 43 = .ok (.iload_n 0, 1) := by decide +kernel
theorem d2_44 : decode method_3_code 44 = .ok (.sipush 163, 3) := by decide +kernel
theorem d2_47 : decode method_3_code 47 = .ok (.if_icmp .eq 17, 3) := by decide +kernel
theorem d2_50 : decode method_3_code 50 = .ok (.iload_n 0, 1) := by decide +kernel
theorem d2_51 : decode method_3_code 51 = .ok (.sipush 180, 3) := by decide +kernel
theorem d2_54 : decode method_3_code 54 = .ok (.if_icmp .eq 10, 3) := by decide +kernel
theorem d2_57 : decode method_3_code 57 = .ok (.iload_n 0, 1) := by decide +kernel
theorem d2_58 : decode method_3_code 58 = .ok (.sipush 247, 3) := by decide +kernel
theorem d2_61 : decode method_3_code 61 = .ok (.if_icmp .ne 5, 3) := by decide +kernel
theorem d2_64 : decode method_3_code 64 = .ok (.iconst 1, 1) := by decide +kernel
theorem d2_65 : decode method_3_code 65 = .ok (.ireturn, 1) := by decide +kernel
theorem d2_66 : decode method_3_code 66 = .ok (.iload_n 0, 1) := by decide +kernel
theorem d2_67 : decode method_3_code 67 = .ok (.sipush 192, 3) := by decide +kernel
theorem d2_70 : decode method_3_code 70 = .ok (.if_icmp .lt 79, 3) := by decide +kernel
theorem d2_73 : decode method_3_code 73 = .ok (.iload_n 0, 1) := by decide +kernel
theorem d2_74 : decode method_3_code 74 = .ok (.sipush 223, 3) := by decide +kernel
theorem d2_77 : decode method_3_code 77 = .ok (.if_icmp .gt 72, 3) := by decide +kernel
theorem d2_80 : decode method_3_code 80 = .ok (.iload_n 0, 1) := by decide +kernel
theorem d2_81 : decode method_3_code 81 = .ok (.sipush 195, 3) := by decide +kernel
theorem d2_84 : decode method_3_code 84 = .ok (.if_icmp .eq 63, 3) := by decide +kernel
theorem d2_87 : decode method_3_code 87 = .ok (.iload_n 0, 1) := by decide +kernel
theorem d2_88 : decode method_3_code 88 = .ok (.sipush 197, 3) := by decide +kernel
theorem d2_91 : decode method_3_code 91 = .ok (.if_icmp .eq 56, 3) := by decide +kernel
theorem d2_94 : decode method_3_code 94 = .ok (.iload_n 0, 1) := by decide +kernel
theorem d2_95 : decode method_3_code 95 = .ok (.sipush 198, 3) := by decide +kernel
theorem d2_98 : decode method_3_code 98 = .ok (.if_icmp .eq 49, 3) := by decide +kernel
theorem d2_101 : decode method_3_code 101 = .ok (.iload_n 0, 1) := by decide +kernel
theorem d2_102 : decode method_3_code 102 = .ok (.sipush 208, 3) := by decide +kernel
theorem d2_105 : decode method_3_code 105 = .ok (.if_icmp .eq 42, 3) := by decide +kernel
theorem d2_108 : decode method_3_code 108 = .ok (.iload_n 0, 1) := by decide +kernel
theorem d2_109 : decode method_3_code 109 = .ok (.sipush 213, 3) := by decide +kernel
theorem d2_112 : decode method_3_code 112 = .ok (.if_icmp .eq 35, 3) := by decide +kernel
theorem d2_115 : decode method_3_code 115 = .ok (.iload_n 0, 1) := by decide +kernel
theorem d2_116 : decode method_3_code 116 = .ok (.sipush 215, 3) := by decide +kernel
theorem d2_119 : decode method_3_code 119 = .ok (.if_icmp .eq 28, 3) := by decide +kernel
theorem d2_122 : decode method_3_code 122 = .ok (.iload_n 0, 1) := by decide +kernel
theorem d2_123 : decode method_3_code 123 = .ok (.sipush 216, 3) := by decide +kernel
theorem d2_126 : decode method_3_code 126 = .ok (.if_icmp .eq 21, 3) := by decide +kernel
theorem d2_129 : decode method_3_code 129 = .ok (.iload_n 0, 1) := by decide +kernel
theorem d2_130 : decode method_3_code 130 = .ok (.sipush 221, 3) := by decide +kernel
theorem d2_133 : decode method_3_code 133 = .ok (.if_icmp .eq 14, 3) := by decide +kernel
theorem d2_136 : decode method_3_code 136 = .ok (.iload_n 0, 1) := by decide +kernel
theorem d2_137 : decode method_3_code 137 = .ok (.sipush 222, 3) := by decide +kernel
theorem d2_140 : decode method_3_code 140 = .ok (.if_icmp .eq 7, 3) := by decide +kernel
theorem d2_143 : decode method_3_code 143 = .ok (.iconst 1, 1) := by decide +kernel
theorem d2_144 : decode method_3_code 144 = .ok (.goto 4, 3) := by decide +kernel
theorem d2_147 : decode method_3_code 147 = .ok (.iconst 0, 1) := by decide +kernel
theorem d2_148 : decode method_3_code 148 = .ok (.ireturn, 1) := by decide +kernel
theorem d2_149 : decode method_3_code 149 = .ok (.iload_n 0, 1) := by decide +kernel
theorem d2_150 : decode method_3_code 150 = .ok (.sipush 224, 3) := by decide +kernel
theorem d2_153 : decode method_3_code 153 = .ok (.if_icmp .lt 58, 3) := by decide +kernel
theorem d2_156 : decode method_3_code 156 = .ok (.iload_n 0, 1) := by decide +kernel
theorem d2_157 : decode method_3_code 157 = .ok (.sipush 253, 3) := by decide +kernel
theorem d2_160 : decode method_3_code 160 = .ok (.if_icmp .gt 51, 3) := by decide +kernel
theorem d2_163 : decode method_3_code 163 = .ok (.iload_n 0, 1) := by decide +kernel
theorem d2_164 : decode method_3_code 164 = .ok (.sipush 227, 3) := by decide +kernel
theorem d2_167 : decode method_3_code 167 = .ok (.if_icmp .eq 42, 3) := by decide +kernel
theorem d2_170 : decode method_3_code 170 = .ok (.iload_n 0, 1) := by decide +kernel
theorem d2_171 : decode method_3_code 171 = .ok (.sipush 229, 3) := by decide +kernel
theorem d2_174 : decode method_3_code 174 = .ok (.if_icmp .eq 35, 3) := by decide +kernel
theorem d2_177 : decode method_3_code 177 = .ok (.iload_n 0, 1) := by decide +kernel
theorem d2_178 : decode method_3_code 178 = .ok (.sipush 230, 3) := by decide +kernel
theorem d2_181 : decode method_3_code 181 = .ok (.if_icmp .eq 28, 3) := by decide +kernel
theorem d2_184 : decode method_3_code 184 = .ok (.iload_n 0, 1) := by decide +kernel
theorem d2_185 : decode method_3_code 185 = .ok (.sipush 240, 3) := by decide +kernel
theorem d2_188 : decode method_3_code 188 = .ok (.if_icmp .eq 21, 3) := by decide +kernel
theorem d2_191 : decode method_3_code 191 = .ok (.iload_n 0, 1) := by decide +kernel
theorem d2_192 : decode method_3_code 192 = .ok (.sipush 245, 3) := by decide +kernel
theorem d2_195 : decode method_3_code 195 = .ok (.if_icmp .eq 14, 3) := by decide +kernel
theorem d2_198 : decode method_3_code 198 = .ok (.iload_n 0, 1) := by decide +kernel
theorem d2_199 : decode method_3_code 199 = .ok (.sipush 248, 3) := by decide +kernel
theorem d2_202 : decode method_3_code 202 = .ok (.if_icmp .eq 7, 3) := by decide +kernel
theorem d2_205 : decode method_3_code 205 = .ok (.iconst 1, 1) := by decide +kernel
theorem d2_206 : decode method_3_code 206 = .ok (.goto 4, 3) := by decide +kernel
theorem d2_209 : decode method_3_code 209 = .ok (.iconst 0, 1) := by decide +kernel
theorem d2_210 : decode method_3_code 210 = .ok (.ireturn, 1) := by decide +kernel
theorem d2_211 : decode method_3_code 211 = .ok (.iconst 0, 1) := by decide +kernel
theorem d2_212 : decode method_3_code 212 = .ok (.ireturn, 1) := by decide +kernel
theorem ef_2 (m : MethodId) (p1 : Int32) : entryFrame m #[(.int p1)] 1 = mkF m 0 #[.val (.int p1)] [] := by first | (simp [entryFrame, mkF, argsToLocals, Value.category]; done) | rfl
def Q2 (Z : State) (p1 : Int32)  (h0 : Heap) (n0 : Nat) (v : Option Value) (h : Heap) (L : List Loc) : Prop := v = some (.int (own_ref p1)) ∧ Fr n0 L ∧ h = h0
set_option maxRecDepth 65536 in
set_option maxHeartbeats 40000000 in
theorem rm2 (l : Launch) (Z : State) (a0 : Array Value) (hw : ∀ d ∈ tables_1, d.before a0 Z = true) (ws : List Jvm.Cond) (p1 : Int32)  (h0 : Heap) (n0 : Nat) (Z0 : n0 ≤ h0.size) :
    MetFree l (⟨"com/example/einzug/einzug/rules/PermittedCharactersIsPermittedPinLaw", "ref", "(I)Z"⟩ : MethodName) (head1 (Jvm.Cond.code (⟨"com/example/einzug/einzug/rules/PermittedCharactersIsPermittedPinLaw", "ref", "(I)Z"⟩ : MethodName) method_3_code 1 (some .boolean) :: ws) ({ frames := 0, cells := 0, slots := 0, locals := 0 } : Room)) (fun a U => a = #[(.int p1)] ∧ Z.Warmed39 U.vm ∧ U.heap = h0) (fun _ _ _ _ _ => True) (fun _ U o U' => ∃ v L, o = .returned v ∧ Q2 Z p1 h0 n0 v U'.heap L ∧ FrameEnd U o U' L ({ frames := 0, cells := 0, slots := 0, locals := 0 } : Room).cells ({ frames := 0, cells := 0, slots := 0, locals := 0 } : Room).slots) := by
  refine MetFree.of_bodySF (plainFor_of_name own_pn1) hisR ?_
  intro p e s m args below meth c s₁ Bd hml0 hP hK
  obtain ⟨rfl, hZ, hh⟩ := hP
  have hx := Bd.exec
  have hby := Bd.bytes
  have hml : c.maxLocals = 1 := hml0
  have hown : s.vm.findClass "com/example/einzug/einzug/rules/PermittedCharactersIsPermittedPinLaw" = some m.cls := findClass_of_methodNamed Bd.named
  have hnm := (name_of_methodNamed Bd.named Bd.method).1
  have X0 : Stand p l e ({ frames := 0, cells := 0, slots := 0, locals := 0 } : Room) s m #[(.int p1)] below meth c s₁ [] 0 0 := Stand.of_body Bd
  have e0 : s₁.heap = h0 := by rw [← hh, Bd.state]; rfl
  have N0 := Fr.nil n0
  refine own_top (Q := Q2 Z p1 h0 n0) (ef_2 m p1) ?_
  have tail149 : own_ref p1 = own_ref4 p1 → own_G p.tables e below s₁ (mkF m 149 #[.val (.int p1)] []) (own_P below s (Q2 Z p1 h0 n0) 0 0) := by
    intro ht
    show own_G p.tables e below s₁ (mkF m 149 #[.val (.int p1)] []) _
    refine own_go (fun t k => XS.iloadN X0.here hx rfl (hb hby d2_149) rfl k) ?_
    show own_G p.tables e below s₁ (mkF m 150 #[.val (.int p1)] [(.int p1)]) _
    refine own_go (fun t k => XS.sipush X0.here hx rfl (hb hby d2_150) k) ?_
    show own_G p.tables e below s₁ (mkF m 153 #[.val (.int p1)] [(.int (224 : Int32)), (.int p1)]) _
    by_cases hc153_1 : p1 < (224 : Int32)
    · skip
      refine own_go (fun t k => XS.icmpYes X0.here hx rfl (pc0 := 153) (pc' := 211) rfl (hb hby d2_153) rfl (tlt hc153_1).1 (by decide) (by decide) k) ?_
      show own_G p.tables e below s₁ (mkF m 211 #[.val (.int p1)] []) _
      refine own_go (fun t k => XS.iconst X0.here hx rfl (hb hby d2_211) k) ?_
      show own_G p.tables e below s₁ (mkF m 212 #[.val (.int p1)] [(.int (0 : Int32))]) _
      exact own_end (v := some (.int (0 : Int32))) X0 Bd.notSynchronized (fun h => by rw [Bd.returns] at h; cases h) (fun fs hr => retN X0 hx (z := (0 : Int32)) (t := .boolean) Bd.returns (by simp) (hb hby d2_212) hr) e0 ⟨congrArg (fun z => some (Value.int z)) (by rw [ht]; unfold own_ref4; rw [if_pos hc153_1]), N0, rfl⟩ (by decide) (by decide)
    · skip
      refine own_go (fun t k => XS.icmpNo X0.here hx rfl (hb hby d2_153) rfl (flt hc153_1).1 k) ?_
      show own_G p.tables e below s₁ (mkF m 156 #[.val (.int p1)] []) _
      refine own_go (fun t k => XS.iloadN X0.here hx rfl (hb hby d2_156) rfl k) ?_
      show own_G p.tables e below s₁ (mkF m 157 #[.val (.int p1)] [(.int p1)]) _
      refine own_go (fun t k => XS.sipush X0.here hx rfl (hb hby d2_157) k) ?_
      show own_G p.tables e below s₁ (mkF m 160 #[.val (.int p1)] [(.int (253 : Int32)), (.int p1)]) _
      by_cases hc160_2 : (253 : Int32) < p1
      · skip
        refine own_go (fun t k => XS.icmpYes X0.here hx rfl (pc0 := 160) (pc' := 211) rfl (hb hby d2_160) rfl (tlt hc160_2).2.2.1 (by decide) (by decide) k) ?_
        show own_G p.tables e below s₁ (mkF m 211 #[.val (.int p1)] []) _
        refine own_go (fun t k => XS.iconst X0.here hx rfl (hb hby d2_211) k) ?_
        show own_G p.tables e below s₁ (mkF m 212 #[.val (.int p1)] [(.int (0 : Int32))]) _
        exact own_end (v := some (.int (0 : Int32))) X0 Bd.notSynchronized (fun h => by rw [Bd.returns] at h; cases h) (fun fs hr => retN X0 hx (z := (0 : Int32)) (t := .boolean) Bd.returns (by simp) (hb hby d2_212) hr) e0 ⟨congrArg (fun z => some (Value.int z)) (by rw [ht]; unfold own_ref4; rw [if_neg hc153_1, if_pos hc160_2]), N0, rfl⟩ (by decide) (by decide)
      · skip
        refine own_go (fun t k => XS.icmpNo X0.here hx rfl (hb hby d2_160) rfl (flt hc160_2).2.2.1 k) ?_
        show own_G p.tables e below s₁ (mkF m 163 #[.val (.int p1)] []) _
        refine own_go (fun t k => XS.iloadN X0.here hx rfl (hb hby d2_163) rfl k) ?_
        show own_G p.tables e below s₁ (mkF m 164 #[.val (.int p1)] [(.int p1)]) _
        refine own_go (fun t k => XS.sipush X0.here hx rfl (hb hby d2_164) k) ?_
        show own_G p.tables e below s₁ (mkF m 167 #[.val (.int p1)] [(.int (227 : Int32)), (.int p1)]) _
        by_cases hc167_3 : p1 = (227 : Int32)
        · skip
          refine own_go (fun t k => XS.icmpYes X0.here hx rfl (pc0 := 167) (pc' := 209) rfl (hb hby d2_167) rfl (teq hc167_3).1 (by decide) (by decide) k) ?_
          show own_G p.tables e below s₁ (mkF m 209 #[.val (.int p1)] []) _
          refine own_go (fun t k => XS.iconst X0.here hx rfl (hb hby d2_209) k) ?_
          show own_G p.tables e below s₁ (mkF m 210 #[.val (.int p1)] [(.int (0 : Int32))]) _
          exact own_end (v := some (.int (0 : Int32))) X0 Bd.notSynchronized (fun h => by rw [Bd.returns] at h; cases h) (fun fs hr => retN X0 hx (z := (0 : Int32)) (t := .boolean) Bd.returns (by simp) (hb hby d2_210) hr) e0 ⟨congrArg (fun z => some (Value.int z)) (by rw [ht]; unfold own_ref4; rw [if_neg hc153_1, if_neg hc160_2, if_pos hc167_3]), N0, rfl⟩ (by decide) (by decide)
        · skip
          refine own_go (fun t k => XS.icmpNo X0.here hx rfl (hb hby d2_167) rfl (feq hc167_3).1 k) ?_
          show own_G p.tables e below s₁ (mkF m 170 #[.val (.int p1)] []) _
          refine own_go (fun t k => XS.iloadN X0.here hx rfl (hb hby d2_170) rfl k) ?_
          show own_G p.tables e below s₁ (mkF m 171 #[.val (.int p1)] [(.int p1)]) _
          refine own_go (fun t k => XS.sipush X0.here hx rfl (hb hby d2_171) k) ?_
          show own_G p.tables e below s₁ (mkF m 174 #[.val (.int p1)] [(.int (229 : Int32)), (.int p1)]) _
          by_cases hc174_4 : p1 = (229 : Int32)
          · skip
            refine own_go (fun t k => XS.icmpYes X0.here hx rfl (pc0 := 174) (pc' := 209) rfl (hb hby d2_174) rfl (teq hc174_4).1 (by decide) (by decide) k) ?_
            show own_G p.tables e below s₁ (mkF m 209 #[.val (.int p1)] []) _
            refine own_go (fun t k => XS.iconst X0.here hx rfl (hb hby d2_209) k) ?_
            show own_G p.tables e below s₁ (mkF m 210 #[.val (.int p1)] [(.int (0 : Int32))]) _
            exact own_end (v := some (.int (0 : Int32))) X0 Bd.notSynchronized (fun h => by rw [Bd.returns] at h; cases h) (fun fs hr => retN X0 hx (z := (0 : Int32)) (t := .boolean) Bd.returns (by simp) (hb hby d2_210) hr) e0 ⟨congrArg (fun z => some (Value.int z)) (by rw [ht]; unfold own_ref4; rw [if_neg hc153_1, if_neg hc160_2, if_neg hc167_3, if_pos hc174_4]), N0, rfl⟩ (by decide) (by decide)
          · skip
            refine own_go (fun t k => XS.icmpNo X0.here hx rfl (hb hby d2_174) rfl (feq hc174_4).1 k) ?_
            show own_G p.tables e below s₁ (mkF m 177 #[.val (.int p1)] []) _
            refine own_go (fun t k => XS.iloadN X0.here hx rfl (hb hby d2_177) rfl k) ?_
            show own_G p.tables e below s₁ (mkF m 178 #[.val (.int p1)] [(.int p1)]) _
            refine own_go (fun t k => XS.sipush X0.here hx rfl (hb hby d2_178) k) ?_
            show own_G p.tables e below s₁ (mkF m 181 #[.val (.int p1)] [(.int (230 : Int32)), (.int p1)]) _
            by_cases hc181_5 : p1 = (230 : Int32)
            · skip
              refine own_go (fun t k => XS.icmpYes X0.here hx rfl (pc0 := 181) (pc' := 209) rfl (hb hby d2_181) rfl (teq hc181_5).1 (by decide) (by decide) k) ?_
              show own_G p.tables e below s₁ (mkF m 209 #[.val (.int p1)] []) _
              refine own_go (fun t k => XS.iconst X0.here hx rfl (hb hby d2_209) k) ?_
              show own_G p.tables e below s₁ (mkF m 210 #[.val (.int p1)] [(.int (0 : Int32))]) _
              exact own_end (v := some (.int (0 : Int32))) X0 Bd.notSynchronized (fun h => by rw [Bd.returns] at h; cases h) (fun fs hr => retN X0 hx (z := (0 : Int32)) (t := .boolean) Bd.returns (by simp) (hb hby d2_210) hr) e0 ⟨congrArg (fun z => some (Value.int z)) (by rw [ht]; unfold own_ref4; rw [if_neg hc153_1, if_neg hc160_2, if_neg hc167_3, if_neg hc174_4, if_pos hc181_5]), N0, rfl⟩ (by decide) (by decide)
            · skip
              refine own_go (fun t k => XS.icmpNo X0.here hx rfl (hb hby d2_181) rfl (feq hc181_5).1 k) ?_
              show own_G p.tables e below s₁ (mkF m 184 #[.val (.int p1)] []) _
              refine own_go (fun t k => XS.iloadN X0.here hx rfl (hb hby d2_184) rfl k) ?_
              show own_G p.tables e below s₁ (mkF m 185 #[.val (.int p1)] [(.int p1)]) _
              refine own_go (fun t k => XS.sipush X0.here hx rfl (hb hby d2_185) k) ?_
              show own_G p.tables e below s₁ (mkF m 188 #[.val (.int p1)] [(.int (240 : Int32)), (.int p1)]) _
              by_cases hc188_6 : p1 = (240 : Int32)
              · skip
                refine own_go (fun t k => XS.icmpYes X0.here hx rfl (pc0 := 188) (pc' := 209) rfl (hb hby d2_188) rfl (teq hc188_6).1 (by decide) (by decide) k) ?_
                show own_G p.tables e below s₁ (mkF m 209 #[.val (.int p1)] []) _
                refine own_go (fun t k => XS.iconst X0.here hx rfl (hb hby d2_209) k) ?_
                show own_G p.tables e below s₁ (mkF m 210 #[.val (.int p1)] [(.int (0 : Int32))]) _
                exact own_end (v := some (.int (0 : Int32))) X0 Bd.notSynchronized (fun h => by rw [Bd.returns] at h; cases h) (fun fs hr => retN X0 hx (z := (0 : Int32)) (t := .boolean) Bd.returns (by simp) (hb hby d2_210) hr) e0 ⟨congrArg (fun z => some (Value.int z)) (by rw [ht]; unfold own_ref4; rw [if_neg hc153_1, if_neg hc160_2, if_neg hc167_3, if_neg hc174_4, if_neg hc181_5, if_pos hc188_6]), N0, rfl⟩ (by decide) (by decide)
              · skip
                refine own_go (fun t k => XS.icmpNo X0.here hx rfl (hb hby d2_188) rfl (feq hc188_6).1 k) ?_
                show own_G p.tables e below s₁ (mkF m 191 #[.val (.int p1)] []) _
                refine own_go (fun t k => XS.iloadN X0.here hx rfl (hb hby d2_191) rfl k) ?_
                show own_G p.tables e below s₁ (mkF m 192 #[.val (.int p1)] [(.int p1)]) _
                refine own_go (fun t k => XS.sipush X0.here hx rfl (hb hby d2_192) k) ?_
                show own_G p.tables e below s₁ (mkF m 195 #[.val (.int p1)] [(.int (245 : Int32)), (.int p1)]) _
                by_cases hc195_7 : p1 = (245 : Int32)
                · skip
                  refine own_go (fun t k => XS.icmpYes X0.here hx rfl (pc0 := 195) (pc' := 209) rfl (hb hby d2_195) rfl (teq hc195_7).1 (by decide) (by decide) k) ?_
                  show own_G p.tables e below s₁ (mkF m 209 #[.val (.int p1)] []) _
                  refine own_go (fun t k => XS.iconst X0.here hx rfl (hb hby d2_209) k) ?_
                  show own_G p.tables e below s₁ (mkF m 210 #[.val (.int p1)] [(.int (0 : Int32))]) _
                  exact own_end (v := some (.int (0 : Int32))) X0 Bd.notSynchronized (fun h => by rw [Bd.returns] at h; cases h) (fun fs hr => retN X0 hx (z := (0 : Int32)) (t := .boolean) Bd.returns (by simp) (hb hby d2_210) hr) e0 ⟨congrArg (fun z => some (Value.int z)) (by rw [ht]; unfold own_ref4; rw [if_neg hc153_1, if_neg hc160_2, if_neg hc167_3, if_neg hc174_4, if_neg hc181_5, if_neg hc188_6, if_pos hc195_7]), N0, rfl⟩ (by decide) (by decide)
                · skip
                  refine own_go (fun t k => XS.icmpNo X0.here hx rfl (hb hby d2_195) rfl (feq hc195_7).1 k) ?_
                  show own_G p.tables e below s₁ (mkF m 198 #[.val (.int p1)] []) _
                  refine own_go (fun t k => XS.iloadN X0.here hx rfl (hb hby d2_198) rfl k) ?_
                  show own_G p.tables e below s₁ (mkF m 199 #[.val (.int p1)] [(.int p1)]) _
                  refine own_go (fun t k => XS.sipush X0.here hx rfl (hb hby d2_199) k) ?_
                  show own_G p.tables e below s₁ (mkF m 202 #[.val (.int p1)] [(.int (248 : Int32)), (.int p1)]) _
                  by_cases hc202_8 : p1 = (248 : Int32)
                  · skip
                    refine own_go (fun t k => XS.icmpYes X0.here hx rfl (pc0 := 202) (pc' := 209) rfl (hb hby d2_202) rfl (teq hc202_8).1 (by decide) (by decide) k) ?_
                    show own_G p.tables e below s₁ (mkF m 209 #[.val (.int p1)] []) _
                    refine own_go (fun t k => XS.iconst X0.here hx rfl (hb hby d2_209) k) ?_
                    show own_G p.tables e below s₁ (mkF m 210 #[.val (.int p1)] [(.int (0 : Int32))]) _
                    exact own_end (v := some (.int (0 : Int32))) X0 Bd.notSynchronized (fun h => by rw [Bd.returns] at h; cases h) (fun fs hr => retN X0 hx (z := (0 : Int32)) (t := .boolean) Bd.returns (by simp) (hb hby d2_210) hr) e0 ⟨congrArg (fun z => some (Value.int z)) (by rw [ht]; unfold own_ref4; rw [if_neg hc153_1, if_neg hc160_2, if_neg hc167_3, if_neg hc174_4, if_neg hc181_5, if_neg hc188_6, if_neg hc195_7, if_pos hc202_8]), N0, rfl⟩ (by decide) (by decide)
                  · skip
                    refine own_go (fun t k => XS.icmpNo X0.here hx rfl (hb hby d2_202) rfl (feq hc202_8).1 k) ?_
                    show own_G p.tables e below s₁ (mkF m 205 #[.val (.int p1)] []) _
                    refine own_go (fun t k => XS.iconst X0.here hx rfl (hb hby d2_205) k) ?_
                    show own_G p.tables e below s₁ (mkF m 206 #[.val (.int p1)] [(.int (1 : Int32))]) _
                    refine own_go (fun t k => XS.goto X0.here hx rfl (pc0 := 206) (pc' := 210) rfl (hb hby d2_206) (by decide) (by decide) k) ?_
                    show own_G p.tables e below s₁ (mkF m 210 #[.val (.int p1)] [(.int (1 : Int32))]) _
                    exact own_end (v := some (.int (1 : Int32))) X0 Bd.notSynchronized (fun h => by rw [Bd.returns] at h; cases h) (fun fs hr => retN X0 hx (z := (1 : Int32)) (t := .boolean) Bd.returns (by simp) (hb hby d2_210) hr) e0 ⟨congrArg (fun z => some (Value.int z)) (by rw [ht]; unfold own_ref4; rw [if_neg hc153_1, if_neg hc160_2, if_neg hc167_3, if_neg hc174_4, if_neg hc181_5, if_neg hc188_6, if_neg hc195_7, if_neg hc202_8]), N0, rfl⟩ (by decide) (by decide)
  have tail66 : own_ref p1 = own_ref3 p1 → own_G p.tables e below s₁ (mkF m 66 #[.val (.int p1)] []) (own_P below s (Q2 Z p1 h0 n0) 0 0) := by
    intro ht
    show own_G p.tables e below s₁ (mkF m 66 #[.val (.int p1)] []) _
    refine own_go (fun t k => XS.iloadN X0.here hx rfl (hb hby d2_66) rfl k) ?_
    show own_G p.tables e below s₁ (mkF m 67 #[.val (.int p1)] [(.int p1)]) _
    refine own_go (fun t k => XS.sipush X0.here hx rfl (hb hby d2_67) k) ?_
    show own_G p.tables e below s₁ (mkF m 70 #[.val (.int p1)] [(.int (192 : Int32)), (.int p1)]) _
    by_cases hc70_9 : p1 < (192 : Int32)
    · skip
      refine own_go (fun t k => XS.icmpYes X0.here hx rfl (pc0 := 70) (pc' := 149) rfl (hb hby d2_70) rfl (tlt hc70_9).1 (by decide) (by decide) k) ?_
      show own_G p.tables e below s₁ (mkF m 149 #[.val (.int p1)] []) _
      exact tail149 (by rw [ht]; unfold own_ref3; rw [if_pos hc70_9])
    · skip
      refine own_go (fun t k => XS.icmpNo X0.here hx rfl (hb hby d2_70) rfl (flt hc70_9).1 k) ?_
      show own_G p.tables e below s₁ (mkF m 73 #[.val (.int p1)] []) _
      refine own_go (fun t k => XS.iloadN X0.here hx rfl (hb hby d2_73) rfl k) ?_
      show own_G p.tables e below s₁ (mkF m 74 #[.val (.int p1)] [(.int p1)]) _
      refine own_go (fun t k => XS.sipush X0.here hx rfl (hb hby d2_74) k) ?_
      show own_G p.tables e below s₁ (mkF m 77 #[.val (.int p1)] [(.int (223 : Int32)), (.int p1)]) _
      by_cases hc77_10 : (223 : Int32) < p1
      · skip
        refine own_go (fun t k => XS.icmpYes X0.here hx rfl (pc0 := 77) (pc' := 149) rfl (hb hby d2_77) rfl (tlt hc77_10).2.2.1 (by decide) (by decide) k) ?_
        show own_G p.tables e below s₁ (mkF m 149 #[.val (.int p1)] []) _
        exact tail149 (by rw [ht]; unfold own_ref3; rw [if_neg hc70_9, if_pos hc77_10])
      · skip
        refine own_go (fun t k => XS.icmpNo X0.here hx rfl (hb hby d2_77) rfl (flt hc77_10).2.2.1 k) ?_
        show own_G p.tables e below s₁ (mkF m 80 #[.val (.int p1)] []) _
        refine own_go (fun t k => XS.iloadN X0.here hx rfl (hb hby d2_80) rfl k) ?_
        show own_G p.tables e below s₁ (mkF m 81 #[.val (.int p1)] [(.int p1)]) _
        refine own_go (fun t k => XS.sipush X0.here hx rfl (hb hby d2_81) k) ?_
        show own_G p.tables e below s₁ (mkF m 84 #[.val (.int p1)] [(.int (195 : Int32)), (.int p1)]) _
        by_cases hc84_11 : p1 = (195 : Int32)
        · skip
          refine own_go (fun t k => XS.icmpYes X0.here hx rfl (pc0 := 84) (pc' := 147) rfl (hb hby d2_84) rfl (teq hc84_11).1 (by decide) (by decide) k) ?_
          show own_G p.tables e below s₁ (mkF m 147 #[.val (.int p1)] []) _
          refine own_go (fun t k => XS.iconst X0.here hx rfl (hb hby d2_147) k) ?_
          show own_G p.tables e below s₁ (mkF m 148 #[.val (.int p1)] [(.int (0 : Int32))]) _
          exact own_end (v := some (.int (0 : Int32))) X0 Bd.notSynchronized (fun h => by rw [Bd.returns] at h; cases h) (fun fs hr => retN X0 hx (z := (0 : Int32)) (t := .boolean) Bd.returns (by simp) (hb hby d2_148) hr) e0 ⟨congrArg (fun z => some (Value.int z)) (by rw [ht]; unfold own_ref3; rw [if_neg hc70_9, if_neg hc77_10, if_pos hc84_11]), N0, rfl⟩ (by decide) (by decide)
        · skip
          refine own_go (fun t k => XS.icmpNo X0.here hx rfl (hb hby d2_84) rfl (feq hc84_11).1 k) ?_
          show own_G p.tables e below s₁ (mkF m 87 #[.val (.int p1)] []) _
          refine own_go (fun t k => XS.iloadN X0.here hx rfl (hb hby d2_87) rfl k) ?_
          show own_G p.tables e below s₁ (mkF m 88 #[.val (.int p1)] [(.int p1)]) _
          refine own_go (fun t k => XS.sipush X0.here hx rfl (hb hby d2_88) k) ?_
          show own_G p.tables e below s₁ (mkF m 91 #[.val (.int p1)] [(.int (197 : Int32)), (.int p1)]) _
          by_cases hc91_12 : p1 = (197 : Int32)
          · skip
            refine own_go (fun t k => XS.icmpYes X0.here hx rfl (pc0 := 91) (pc' := 147) rfl (hb hby d2_91) rfl (teq hc91_12).1 (by decide) (by decide) k) ?_
            show own_G p.tables e below s₁ (mkF m 147 #[.val (.int p1)] []) _
            refine own_go (fun t k => XS.iconst X0.here hx rfl (hb hby d2_147) k) ?_
            show own_G p.tables e below s₁ (mkF m 148 #[.val (.int p1)] [(.int (0 : Int32))]) _
            exact own_end (v := some (.int (0 : Int32))) X0 Bd.notSynchronized (fun h => by rw [Bd.returns] at h; cases h) (fun fs hr => retN X0 hx (z := (0 : Int32)) (t := .boolean) Bd.returns (by simp) (hb hby d2_148) hr) e0 ⟨congrArg (fun z => some (Value.int z)) (by rw [ht]; unfold own_ref3; rw [if_neg hc70_9, if_neg hc77_10, if_neg hc84_11, if_pos hc91_12]), N0, rfl⟩ (by decide) (by decide)
          · skip
            refine own_go (fun t k => XS.icmpNo X0.here hx rfl (hb hby d2_91) rfl (feq hc91_12).1 k) ?_
            show own_G p.tables e below s₁ (mkF m 94 #[.val (.int p1)] []) _
            refine own_go (fun t k => XS.iloadN X0.here hx rfl (hb hby d2_94) rfl k) ?_
            show own_G p.tables e below s₁ (mkF m 95 #[.val (.int p1)] [(.int p1)]) _
            refine own_go (fun t k => XS.sipush X0.here hx rfl (hb hby d2_95) k) ?_
            show own_G p.tables e below s₁ (mkF m 98 #[.val (.int p1)] [(.int (198 : Int32)), (.int p1)]) _
            by_cases hc98_13 : p1 = (198 : Int32)
            · skip
              refine own_go (fun t k => XS.icmpYes X0.here hx rfl (pc0 := 98) (pc' := 147) rfl (hb hby d2_98) rfl (teq hc98_13).1 (by decide) (by decide) k) ?_
              show own_G p.tables e below s₁ (mkF m 147 #[.val (.int p1)] []) _
              refine own_go (fun t k => XS.iconst X0.here hx rfl (hb hby d2_147) k) ?_
              show own_G p.tables e below s₁ (mkF m 148 #[.val (.int p1)] [(.int (0 : Int32))]) _
              exact own_end (v := some (.int (0 : Int32))) X0 Bd.notSynchronized (fun h => by rw [Bd.returns] at h; cases h) (fun fs hr => retN X0 hx (z := (0 : Int32)) (t := .boolean) Bd.returns (by simp) (hb hby d2_148) hr) e0 ⟨congrArg (fun z => some (Value.int z)) (by rw [ht]; unfold own_ref3; rw [if_neg hc70_9, if_neg hc77_10, if_neg hc84_11, if_neg hc91_12, if_pos hc98_13]), N0, rfl⟩ (by decide) (by decide)
            · skip
              refine own_go (fun t k => XS.icmpNo X0.here hx rfl (hb hby d2_98) rfl (feq hc98_13).1 k) ?_
              show own_G p.tables e below s₁ (mkF m 101 #[.val (.int p1)] []) _
              refine own_go (fun t k => XS.iloadN X0.here hx rfl (hb hby d2_101) rfl k) ?_
              show own_G p.tables e below s₁ (mkF m 102 #[.val (.int p1)] [(.int p1)]) _
              refine own_go (fun t k => XS.sipush X0.here hx rfl (hb hby d2_102) k) ?_
              show own_G p.tables e below s₁ (mkF m 105 #[.val (.int p1)] [(.int (208 : Int32)), (.int p1)]) _
              by_cases hc105_14 : p1 = (208 : Int32)
              · skip
                refine own_go (fun t k => XS.icmpYes X0.here hx rfl (pc0 := 105) (pc' := 147) rfl (hb hby d2_105) rfl (teq hc105_14).1 (by decide) (by decide) k) ?_
                show own_G p.tables e below s₁ (mkF m 147 #[.val (.int p1)] []) _
                refine own_go (fun t k => XS.iconst X0.here hx rfl (hb hby d2_147) k) ?_
                show own_G p.tables e below s₁ (mkF m 148 #[.val (.int p1)] [(.int (0 : Int32))]) _
                exact own_end (v := some (.int (0 : Int32))) X0 Bd.notSynchronized (fun h => by rw [Bd.returns] at h; cases h) (fun fs hr => retN X0 hx (z := (0 : Int32)) (t := .boolean) Bd.returns (by simp) (hb hby d2_148) hr) e0 ⟨congrArg (fun z => some (Value.int z)) (by rw [ht]; unfold own_ref3; rw [if_neg hc70_9, if_neg hc77_10, if_neg hc84_11, if_neg hc91_12, if_neg hc98_13, if_pos hc105_14]), N0, rfl⟩ (by decide) (by decide)
              · skip
                refine own_go (fun t k => XS.icmpNo X0.here hx rfl (hb hby d2_105) rfl (feq hc105_14).1 k) ?_
                show own_G p.tables e below s₁ (mkF m 108 #[.val (.int p1)] []) _
                refine own_go (fun t k => XS.iloadN X0.here hx rfl (hb hby d2_108) rfl k) ?_
                show own_G p.tables e below s₁ (mkF m 109 #[.val (.int p1)] [(.int p1)]) _
                refine own_go (fun t k => XS.sipush X0.here hx rfl (hb hby d2_109) k) ?_
                show own_G p.tables e below s₁ (mkF m 112 #[.val (.int p1)] [(.int (213 : Int32)), (.int p1)]) _
                by_cases hc112_15 : p1 = (213 : Int32)
                · skip
                  refine own_go (fun t k => XS.icmpYes X0.here hx rfl (pc0 := 112) (pc' := 147) rfl (hb hby d2_112) rfl (teq hc112_15).1 (by decide) (by decide) k) ?_
                  show own_G p.tables e below s₁ (mkF m 147 #[.val (.int p1)] []) _
                  refine own_go (fun t k => XS.iconst X0.here hx rfl (hb hby d2_147) k) ?_
                  show own_G p.tables e below s₁ (mkF m 148 #[.val (.int p1)] [(.int (0 : Int32))]) _
                  exact own_end (v := some (.int (0 : Int32))) X0 Bd.notSynchronized (fun h => by rw [Bd.returns] at h; cases h) (fun fs hr => retN X0 hx (z := (0 : Int32)) (t := .boolean) Bd.returns (by simp) (hb hby d2_148) hr) e0 ⟨congrArg (fun z => some (Value.int z)) (by rw [ht]; unfold own_ref3; rw [if_neg hc70_9, if_neg hc77_10, if_neg hc84_11, if_neg hc91_12, if_neg hc98_13, if_neg hc105_14, if_pos hc112_15]), N0, rfl⟩ (by decide) (by decide)
                · skip
                  refine own_go (fun t k => XS.icmpNo X0.here hx rfl (hb hby d2_112) rfl (feq hc112_15).1 k) ?_
                  show own_G p.tables e below s₁ (mkF m 115 #[.val (.int p1)] []) _
                  refine own_go (fun t k => XS.iloadN X0.here hx rfl (hb hby d2_115) rfl k) ?_
                  show own_G p.tables e below s₁ (mkF m 116 #[.val (.int p1)] [(.int p1)]) _
                  refine own_go (fun t k => XS.sipush X0.here hx rfl (hb hby d2_116) k) ?_
                  show own_G p.tables e below s₁ (mkF m 119 #[.val (.int p1)] [(.int (215 : Int32)), (.int p1)]) _
                  by_cases hc119_16 : p1 = (215 : Int32)
                  · skip
                    refine own_go (fun t k => XS.icmpYes X0.here hx rfl (pc0 := 119) (pc' := 147) rfl (hb hby d2_119) rfl (teq hc119_16).1 (by decide) (by decide) k) ?_
                    show own_G p.tables e below s₁ (mkF m 147 #[.val (.int p1)] []) _
                    refine own_go (fun t k => XS.iconst X0.here hx rfl (hb hby d2_147) k) ?_
                    show own_G p.tables e below s₁ (mkF m 148 #[.val (.int p1)] [(.int (0 : Int32))]) _
                    exact own_end (v := some (.int (0 : Int32))) X0 Bd.notSynchronized (fun h => by rw [Bd.returns] at h; cases h) (fun fs hr => retN X0 hx (z := (0 : Int32)) (t := .boolean) Bd.returns (by simp) (hb hby d2_148) hr) e0 ⟨congrArg (fun z => some (Value.int z)) (by rw [ht]; unfold own_ref3; rw [if_neg hc70_9, if_neg hc77_10, if_neg hc84_11, if_neg hc91_12, if_neg hc98_13, if_neg hc105_14, if_neg hc112_15, if_pos hc119_16]), N0, rfl⟩ (by decide) (by decide)
                  · skip
                    refine own_go (fun t k => XS.icmpNo X0.here hx rfl (hb hby d2_119) rfl (feq hc119_16).1 k) ?_
                    show own_G p.tables e below s₁ (mkF m 122 #[.val (.int p1)] []) _
                    refine own_go (fun t k => XS.iloadN X0.here hx rfl (hb hby d2_122) rfl k) ?_
                    show own_G p.tables e below s₁ (mkF m 123 #[.val (.int p1)] [(.int p1)]) _
                    refine own_go (fun t k => XS.sipush X0.here hx rfl (hb hby d2_123) k) ?_
                    show own_G p.tables e below s₁ (mkF m 126 #[.val (.int p1)] [(.int (216 : Int32)), (.int p1)]) _
                    by_cases hc126_17 : p1 = (216 : Int32)
                    · skip
                      refine own_go (fun t k => XS.icmpYes X0.here hx rfl (pc0 := 126) (pc' := 147) rfl (hb hby d2_126) rfl (teq hc126_17).1 (by decide) (by decide) k) ?_
                      show own_G p.tables e below s₁ (mkF m 147 #[.val (.int p1)] []) _
                      refine own_go (fun t k => XS.iconst X0.here hx rfl (hb hby d2_147) k) ?_
                      show own_G p.tables e below s₁ (mkF m 148 #[.val (.int p1)] [(.int (0 : Int32))]) _
                      exact own_end (v := some (.int (0 : Int32))) X0 Bd.notSynchronized (fun h => by rw [Bd.returns] at h; cases h) (fun fs hr => retN X0 hx (z := (0 : Int32)) (t := .boolean) Bd.returns (by simp) (hb hby d2_148) hr) e0 ⟨congrArg (fun z => some (Value.int z)) (by rw [ht]; unfold own_ref3; rw [if_neg hc70_9, if_neg hc77_10, if_neg hc84_11, if_neg hc91_12, if_neg hc98_13, if_neg hc105_14, if_neg hc112_15, if_neg hc119_16, if_pos hc126_17]), N0, rfl⟩ (by decide) (by decide)
                    · skip
                      refine own_go (fun t k => XS.icmpNo X0.here hx rfl (hb hby d2_126) rfl (feq hc126_17).1 k) ?_
                      show own_G p.tables e below s₁ (mkF m 129 #[.val (.int p1)] []) _
                      refine own_go (fun t k => XS.iloadN X0.here hx rfl (hb hby d2_129) rfl k) ?_
                      show own_G p.tables e below s₁ (mkF m 130 #[.val (.int p1)] [(.int p1)]) _
                      refine own_go (fun t k => XS.sipush X0.here hx rfl (hb hby d2_130) k) ?_
                      show own_G p.tables e below s₁ (mkF m 133 #[.val (.int p1)] [(.int (221 : Int32)), (.int p1)]) _
                      by_cases hc133_18 : p1 = (221 : Int32)
                      · skip
                        refine own_go (fun t k => XS.icmpYes X0.here hx rfl (pc0 := 133) (pc' := 147) rfl (hb hby d2_133) rfl (teq hc133_18).1 (by decide) (by decide) k) ?_
                        show own_G p.tables e below s₁ (mkF m 147 #[.val (.int p1)] []) _
                        refine own_go (fun t k => XS.iconst X0.here hx rfl (hb hby d2_147) k) ?_
                        show own_G p.tables e below s₁ (mkF m 148 #[.val (.int p1)] [(.int (0 : Int32))]) _
                        exact own_end (v := some (.int (0 : Int32))) X0 Bd.notSynchronized (fun h => by rw [Bd.returns] at h; cases h) (fun fs hr => retN X0 hx (z := (0 : Int32)) (t := .boolean) Bd.returns (by simp) (hb hby d2_148) hr) e0 ⟨congrArg (fun z => some (Value.int z)) (by rw [ht]; unfold own_ref3; rw [if_neg hc70_9, if_neg hc77_10, if_neg hc84_11, if_neg hc91_12, if_neg hc98_13, if_neg hc105_14, if_neg hc112_15, if_neg hc119_16, if_neg hc126_17, if_pos hc133_18]), N0, rfl⟩ (by decide) (by decide)
                      · skip
                        refine own_go (fun t k => XS.icmpNo X0.here hx rfl (hb hby d2_133) rfl (feq hc133_18).1 k) ?_
                        show own_G p.tables e below s₁ (mkF m 136 #[.val (.int p1)] []) _
                        refine own_go (fun t k => XS.iloadN X0.here hx rfl (hb hby d2_136) rfl k) ?_
                        show own_G p.tables e below s₁ (mkF m 137 #[.val (.int p1)] [(.int p1)]) _
                        refine own_go (fun t k => XS.sipush X0.here hx rfl (hb hby d2_137) k) ?_
                        show own_G p.tables e below s₁ (mkF m 140 #[.val (.int p1)] [(.int (222 : Int32)), (.int p1)]) _
                        by_cases hc140_19 : p1 = (222 : Int32)
                        · skip
                          refine own_go (fun t k => XS.icmpYes X0.here hx rfl (pc0 := 140) (pc' := 147) rfl (hb hby d2_140) rfl (teq hc140_19).1 (by decide) (by decide) k) ?_
                          show own_G p.tables e below s₁ (mkF m 147 #[.val (.int p1)] []) _
                          refine own_go (fun t k => XS.iconst X0.here hx rfl (hb hby d2_147) k) ?_
                          show own_G p.tables e below s₁ (mkF m 148 #[.val (.int p1)] [(.int (0 : Int32))]) _
                          exact own_end (v := some (.int (0 : Int32))) X0 Bd.notSynchronized (fun h => by rw [Bd.returns] at h; cases h) (fun fs hr => retN X0 hx (z := (0 : Int32)) (t := .boolean) Bd.returns (by simp) (hb hby d2_148) hr) e0 ⟨congrArg (fun z => some (Value.int z)) (by rw [ht]; unfold own_ref3; rw [if_neg hc70_9, if_neg hc77_10, if_neg hc84_11, if_neg hc91_12, if_neg hc98_13, if_neg hc105_14, if_neg hc112_15, if_neg hc119_16, if_neg hc126_17, if_neg hc133_18, if_pos hc140_19]), N0, rfl⟩ (by decide) (by decide)
                        · skip
                          refine own_go (fun t k => XS.icmpNo X0.here hx rfl (hb hby d2_140) rfl (feq hc140_19).1 k) ?_
                          show own_G p.tables e below s₁ (mkF m 143 #[.val (.int p1)] []) _
                          refine own_go (fun t k => XS.iconst X0.here hx rfl (hb hby d2_143) k) ?_
                          show own_G p.tables e below s₁ (mkF m 144 #[.val (.int p1)] [(.int (1 : Int32))]) _
                          refine own_go (fun t k => XS.goto X0.here hx rfl (pc0 := 144) (pc' := 148) rfl (hb hby d2_144) (by decide) (by decide) k) ?_
                          show own_G p.tables e below s₁ (mkF m 148 #[.val (.int p1)] [(.int (1 : Int32))]) _
                          exact own_end (v := some (.int (1 : Int32))) X0 Bd.notSynchronized (fun h => by rw [Bd.returns] at h; cases h) (fun fs hr => retN X0 hx (z := (1 : Int32)) (t := .boolean) Bd.returns (by simp) (hb hby d2_148) hr) e0 ⟨congrArg (fun z => some (Value.int z)) (by rw [ht]; unfold own_ref3; rw [if_neg hc70_9, if_neg hc77_10, if_neg hc84_11, if_neg hc91_12, if_neg hc98_13, if_neg hc105_14, if_neg hc112_15, if_neg hc119_16, if_neg hc126_17, if_neg hc133_18, if_neg hc140_19]), N0, rfl⟩ (by decide) (by decide)
  have tail43 : own_ref p1 = own_ref2 p1 → own_G p.tables e below s₁ (mkF m 43 #[.val (.int p1)] []) (own_P below s (Q2 Z p1 h0 n0) 0 0) := by
    intro ht
    show own_G p.tables e below s₁ (mkF m 43 #[.val (.int p1)] []) _
    refine own_go (fun t k => XS.iloadN X0.here hx rfl (hb hby d2_43) rfl k) ?_
    show own_G p.tables e below s₁ (mkF m 44 #[.val (.int p1)] [(.int p1)]) _
    refine own_go (fun t k => XS.sipush X0.here hx rfl (hb hby d2_44) k) ?_
    show own_G p.tables e below s₁ (mkF m 47 #[.val (.int p1)] [(.int (163 : Int32)), (.int p1)]) _
    by_cases hc47_20 : p1 = (163 : Int32)
    · skip
      refine own_go (fun t k => XS.icmpYes X0.here hx rfl (pc0 := 47) (pc' := 64) rfl (hb hby d2_47) rfl (teq hc47_20).1 (by decide) (by decide) k) ?_
      show own_G p.tables e below s₁ (mkF m 64 #[.val (.int p1)] []) _
      refine own_go (fun t k => XS.iconst X0.here hx rfl (hb hby d2_64) k) ?_
      show own_G p.tables e below s₁ (mkF m 65 #[.val (.int p1)] [(.int (1 : Int32))]) _
      exact own_end (v := some (.int (1 : Int32))) X0 Bd.notSynchronized (fun h => by rw [Bd.returns] at h; cases h) (fun fs hr => retN X0 hx (z := (1 : Int32)) (t := .boolean) Bd.returns (by simp) (hb hby d2_65) hr) e0 ⟨congrArg (fun z => some (Value.int z)) (by rw [ht]; unfold own_ref2; rw [if_pos hc47_20]), N0, rfl⟩ (by decide) (by decide)
    · skip
      refine own_go (fun t k => XS.icmpNo X0.here hx rfl (hb hby d2_47) rfl (feq hc47_20).1 k) ?_
      show own_G p.tables e below s₁ (mkF m 50 #[.val (.int p1)] []) _
      refine own_go (fun t k => XS.iloadN X0.here hx rfl (hb hby d2_50) rfl k) ?_
      show own_G p.tables e below s₁ (mkF m 51 #[.val (.int p1)] [(.int p1)]) _
      refine own_go (fun t k => XS.sipush X0.here hx rfl (hb hby d2_51) k) ?_
      show own_G p.tables e below s₁ (mkF m 54 #[.val (.int p1)] [(.int (180 : Int32)), (.int p1)]) _
      by_cases hc54_21 : p1 = (180 : Int32)
      · skip
        refine own_go (fun t k => XS.icmpYes X0.here hx rfl (pc0 := 54) (pc' := 64) rfl (hb hby d2_54) rfl (teq hc54_21).1 (by decide) (by decide) k) ?_
        show own_G p.tables e below s₁ (mkF m 64 #[.val (.int p1)] []) _
        refine own_go (fun t k => XS.iconst X0.here hx rfl (hb hby d2_64) k) ?_
        show own_G p.tables e below s₁ (mkF m 65 #[.val (.int p1)] [(.int (1 : Int32))]) _
        exact own_end (v := some (.int (1 : Int32))) X0 Bd.notSynchronized (fun h => by rw [Bd.returns] at h; cases h) (fun fs hr => retN X0 hx (z := (1 : Int32)) (t := .boolean) Bd.returns (by simp) (hb hby d2_65) hr) e0 ⟨congrArg (fun z => some (Value.int z)) (by rw [ht]; unfold own_ref2; rw [if_neg hc47_20, if_pos hc54_21]), N0, rfl⟩ (by decide) (by decide)
      · skip
        refine own_go (fun t k => XS.icmpNo X0.here hx rfl (hb hby d2_54) rfl (feq hc54_21).1 k) ?_
        show own_G p.tables e below s₁ (mkF m 57 #[.val (.int p1)] []) _
        refine own_go (fun t k => XS.iloadN X0.here hx rfl (hb hby d2_57) rfl k) ?_
        show own_G p.tables e below s₁ (mkF m 58 #[.val (.int p1)] [(.int p1)]) _
        refine own_go (fun t k => XS.sipush X0.here hx rfl (hb hby d2_58) k) ?_
        show own_G p.tables e below s₁ (mkF m 61 #[.val (.int p1)] [(.int (247 : Int32)), (.int p1)]) _
        by_cases hc61_22 : p1 = (247 : Int32)
        · skip
          refine own_go (fun t k => XS.icmpNo X0.here hx rfl (hb hby d2_61) rfl (teq hc61_22).2 k) ?_
          show own_G p.tables e below s₁ (mkF m 64 #[.val (.int p1)] []) _
          refine own_go (fun t k => XS.iconst X0.here hx rfl (hb hby d2_64) k) ?_
          show own_G p.tables e below s₁ (mkF m 65 #[.val (.int p1)] [(.int (1 : Int32))]) _
          exact own_end (v := some (.int (1 : Int32))) X0 Bd.notSynchronized (fun h => by rw [Bd.returns] at h; cases h) (fun fs hr => retN X0 hx (z := (1 : Int32)) (t := .boolean) Bd.returns (by simp) (hb hby d2_65) hr) e0 ⟨congrArg (fun z => some (Value.int z)) (by rw [ht]; unfold own_ref2; rw [if_neg hc47_20, if_neg hc54_21, if_pos hc61_22]), N0, rfl⟩ (by decide) (by decide)
        · skip
          refine own_go (fun t k => XS.icmpYes X0.here hx rfl (pc0 := 61) (pc' := 66) rfl (hb hby d2_61) rfl (feq hc61_22).2 (by decide) (by decide) k) ?_
          show own_G p.tables e below s₁ (mkF m 66 #[.val (.int p1)] []) _
          exact tail66 (by rw [ht]; unfold own_ref2; rw [if_neg hc47_20, if_neg hc54_21, if_neg hc61_22])
  show own_G p.tables e below s₁ (mkF m 0 #[.val (.int p1)] []) _
  refine own_go (fun t k => XS.iloadN X0.here hx rfl (hb hby d2_0) rfl k) ?_
  show own_G p.tables e below s₁ (mkF m 1 #[.val (.int p1)] [(.int p1)]) _
  by_cases hc1_23 : p1 < (0 : Int32)
  · skip
    refine own_go (fun t k => XS.ifYes X0.here hx rfl (pc0 := 1) (pc' := 11) rfl (hb hby d2_1) rfl ((if0 _ _).trans (tlt hc1_23).1) (by decide) (by decide) k) ?_
    show own_G p.tables e below s₁ (mkF m 11 #[.val (.int p1)] []) _
    refine own_go (fun t k => XS.iconst X0.here hx rfl (hb hby d2_11) k) ?_
    show own_G p.tables e below s₁ (mkF m 12 #[.val (.int p1)] [(.int (0 : Int32))]) _
    exact own_end (v := some (.int (0 : Int32))) X0 Bd.notSynchronized (fun h => by rw [Bd.returns] at h; cases h) (fun fs hr => retN X0 hx (z := (0 : Int32)) (t := .boolean) Bd.returns (by simp) (hb hby d2_12) hr) e0 ⟨congrArg (fun z => some (Value.int z)) (by unfold own_ref; rw [if_pos hc1_23]), N0, rfl⟩ (by decide) (by decide)
  · skip
    refine own_go (fun t k => XS.ifNo X0.here hx rfl (hb hby d2_1) rfl ((if0 _ _).trans (flt hc1_23).1) k) ?_
    show own_G p.tables e below s₁ (mkF m 4 #[.val (.int p1)] []) _
    refine own_go (fun t k => XS.iloadN X0.here hx rfl (hb hby d2_4) rfl k) ?_
    show own_G p.tables e below s₁ (mkF m 5 #[.val (.int p1)] [(.int p1)]) _
    refine own_go (fun t k => XS.sipush X0.here hx rfl (hb hby d2_5) k) ?_
    show own_G p.tables e below s₁ (mkF m 8 #[.val (.int p1)] [(.int (255 : Int32)), (.int p1)]) _
    by_cases hc8_24 : (255 : Int32) < p1
    · skip
      refine own_go (fun t k => XS.icmpNo X0.here hx rfl (hb hby d2_8) rfl (tlt hc8_24).2.2.2 k) ?_
      show own_G p.tables e below s₁ (mkF m 11 #[.val (.int p1)] []) _
      refine own_go (fun t k => XS.iconst X0.here hx rfl (hb hby d2_11) k) ?_
      show own_G p.tables e below s₁ (mkF m 12 #[.val (.int p1)] [(.int (0 : Int32))]) _
      exact own_end (v := some (.int (0 : Int32))) X0 Bd.notSynchronized (fun h => by rw [Bd.returns] at h; cases h) (fun fs hr => retN X0 hx (z := (0 : Int32)) (t := .boolean) Bd.returns (by simp) (hb hby d2_12) hr) e0 ⟨congrArg (fun z => some (Value.int z)) (by unfold own_ref; rw [if_neg hc1_23, if_pos hc8_24]), N0, rfl⟩ (by decide) (by decide)
    · skip
      refine own_go (fun t k => XS.icmpYes X0.here hx rfl (pc0 := 8) (pc' := 13) rfl (hb hby d2_8) rfl (flt hc8_24).2.2.2 (by decide) (by decide) k) ?_
      show own_G p.tables e below s₁ (mkF m 13 #[.val (.int p1)] []) _
      refine own_go (fun t k => XS.iloadN X0.here hx rfl (hb hby d2_13) rfl k) ?_
      show own_G p.tables e below s₁ (mkF m 14 #[.val (.int p1)] [(.int p1)]) _
      refine own_go (fun t k => XS.bipush X0.here hx rfl (hb hby d2_14) k) ?_
      show own_G p.tables e below s₁ (mkF m 16 #[.val (.int p1)] [(.int (32 : Int32)), (.int p1)]) _
      by_cases hc16_25 : p1 < (32 : Int32)
      · skip
        refine own_go (fun t k => XS.icmpYes X0.here hx rfl (pc0 := 16) (pc' := 43) rfl (hb hby d2_16) rfl (tlt hc16_25).1 (by decide) (by decide) k) ?_
        show own_G p.tables e below s₁ (mkF m 43 #[.val (.int p1)] []) _
        exact tail43 (by unfold own_ref; rw [if_neg hc1_23, if_neg hc8_24, if_pos hc16_25])
      · skip
        refine own_go (fun t k => XS.icmpNo X0.here hx rfl (hb hby d2_16) rfl (flt hc16_25).1 k) ?_
        show own_G p.tables e below s₁ (mkF m 19 #[.val (.int p1)] []) _
        refine own_go (fun t k => XS.iloadN X0.here hx rfl (hb hby d2_19) rfl k) ?_
        show own_G p.tables e below s₁ (mkF m 20 #[.val (.int p1)] [(.int p1)]) _
        refine own_go (fun t k => XS.bipush X0.here hx rfl (hb hby d2_20) k) ?_
        show own_G p.tables e below s₁ (mkF m 22 #[.val (.int p1)] [(.int (126 : Int32)), (.int p1)]) _
        by_cases hc22_26 : (126 : Int32) < p1
        · skip
          refine own_go (fun t k => XS.icmpYes X0.here hx rfl (pc0 := 22) (pc' := 43) rfl (hb hby d2_22) rfl (tlt hc22_26).2.2.1 (by decide) (by decide) k) ?_
          show own_G p.tables e below s₁ (mkF m 43 #[.val (.int p1)] []) _
          exact tail43 (by unfold own_ref; rw [if_neg hc1_23, if_neg hc8_24, if_neg hc16_25, if_pos hc22_26])
        · skip
          refine own_go (fun t k => XS.icmpNo X0.here hx rfl (hb hby d2_22) rfl (flt hc22_26).2.2.1 k) ?_
          show own_G p.tables e below s₁ (mkF m 25 #[.val (.int p1)] []) _
          refine own_go (fun t k => XS.iloadN X0.here hx rfl (hb hby d2_25) rfl k) ?_
          show own_G p.tables e below s₁ (mkF m 26 #[.val (.int p1)] [(.int p1)]) _
          refine own_go (fun t k => XS.bipush X0.here hx rfl (hb hby d2_26) k) ?_
          show own_G p.tables e below s₁ (mkF m 28 #[.val (.int p1)] [(.int (94 : Int32)), (.int p1)]) _
          by_cases hc28_27 : p1 = (94 : Int32)
          · skip
            refine own_go (fun t k => XS.icmpYes X0.here hx rfl (pc0 := 28) (pc' := 41) rfl (hb hby d2_28) rfl (teq hc28_27).1 (by decide) (by decide) k) ?_
            show own_G p.tables e below s₁ (mkF m 41 #[.val (.int p1)] []) _
            refine own_go (fun t k => XS.iconst X0.here hx rfl (hb hby d2_41) k) ?_
            show own_G p.tables e below s₁ (mkF m 42 #[.val (.int p1)] [(.int (0 : Int32))]) _
            exact own_end (v := some (.int (0 : Int32))) X0 Bd.notSynchronized (fun h => by rw [Bd.returns] at h; cases h) (fun fs hr => retN X0 hx (z := (0 : Int32)) (t := .boolean) Bd.returns (by simp) (hb hby d2_42) hr) e0 ⟨congrArg (fun z => some (Value.int z)) (by unfold own_ref; rw [if_neg hc1_23, if_neg hc8_24, if_neg hc16_25, if_neg hc22_26, if_pos hc28_27]), N0, rfl⟩ (by decide) (by decide)
          · skip
            refine own_go (fun t k => XS.icmpNo X0.here hx rfl (hb hby d2_28) rfl (feq hc28_27).1 k) ?_
            show own_G p.tables e below s₁ (mkF m 31 #[.val (.int p1)] []) _
            refine own_go (fun t k => XS.iloadN X0.here hx rfl (hb hby d2_31) rfl k) ?_
            show own_G p.tables e below s₁ (mkF m 32 #[.val (.int p1)] [(.int p1)]) _
            refine own_go (fun t k => XS.bipush X0.here hx rfl (hb hby d2_32) k) ?_
            show own_G p.tables e below s₁ (mkF m 34 #[.val (.int p1)] [(.int (124 : Int32)), (.int p1)]) _
            by_cases hc34_28 : p1 = (124 : Int32)
            · skip
              refine own_go (fun t k => XS.icmpYes X0.here hx rfl (pc0 := 34) (pc' := 41) rfl (hb hby d2_34) rfl (teq hc34_28).1 (by decide) (by decide) k) ?_
              show own_G p.tables e below s₁ (mkF m 41 #[.val (.int p1)] []) _
              refine own_go (fun t k => XS.iconst X0.here hx rfl (hb hby d2_41) k) ?_
              show own_G p.tables e below s₁ (mkF m 42 #[.val (.int p1)] [(.int (0 : Int32))]) _
              exact own_end (v := some (.int (0 : Int32))) X0 Bd.notSynchronized (fun h => by rw [Bd.returns] at h; cases h) (fun fs hr => retN X0 hx (z := (0 : Int32)) (t := .boolean) Bd.returns (by simp) (hb hby d2_42) hr) e0 ⟨congrArg (fun z => some (Value.int z)) (by unfold own_ref; rw [if_neg hc1_23, if_neg hc8_24, if_neg hc16_25, if_neg hc22_26, if_neg hc28_27, if_pos hc34_28]), N0, rfl⟩ (by decide) (by decide)
            · skip
              refine own_go (fun t k => XS.icmpNo X0.here hx rfl (hb hby d2_34) rfl (feq hc34_28).1 k) ?_
              show own_G p.tables e below s₁ (mkF m 37 #[.val (.int p1)] []) _
              refine own_go (fun t k => XS.iconst X0.here hx rfl (hb hby d2_37) k) ?_
              show own_G p.tables e below s₁ (mkF m 38 #[.val (.int p1)] [(.int (1 : Int32))]) _
              refine own_go (fun t k => XS.goto X0.here hx rfl (pc0 := 38) (pc' := 42) rfl (hb hby d2_38) (by decide) (by decide) k) ?_
              show own_G p.tables e below s₁ (mkF m 42 #[.val (.int p1)] [(.int (1 : Int32))]) _
              exact own_end (v := some (.int (1 : Int32))) X0 Bd.notSynchronized (fun h => by rw [Bd.returns] at h; cases h) (fun fs hr => retN X0 hx (z := (1 : Int32)) (t := .boolean) Bd.returns (by simp) (hb hby d2_42) hr) e0 ⟨congrArg (fun z => some (Value.int z)) (by unfold own_ref; rw [if_neg hc1_23, if_neg hc8_24, if_neg hc16_25, if_neg hc22_26, if_neg hc28_27, if_neg hc34_28]), N0, rfl⟩ (by decide) (by decide)
theorem ef_0 (m : MethodId) (p1 : Int32) (p2 : Int32) : entryFrame m #[(.int p1), (.int p2)] maxLocals = mkF m 0 #[.val (.int p1), .val (.int p2), .unset] [] := by first | (simp [entryFrame, mkF, argsToLocals, Value.category, maxLocals]; done) | rfl
def Q0 (Z : State) (p1 : Int32) (p2 : Int32) (aP : Addr) (clP : Cell) (h0 : Heap) (n0 : Nat) (v : Option Value) (h : Heap) (L : List Loc) : Prop := v = some (.int (1 : Int32)) ∧ Fr n0 L
set_option maxRecDepth 65536 in
set_option maxHeartbeats 40000000 in
theorem rm0 (l : Launch) (Z : State) (a0 : Array Value) (hw : ∀ d ∈ tables_1, d.before a0 Z = true) (ws : List Jvm.Cond) (p1 : Int32) (p2 : Int32) (aP : Addr) (clP : Cell) (h0 : Heap) (n0 : Nat) (Z0 : n0 ≤ h0.size) (S_P : Sta Z h0 "com/example/einzug/einzug/rules/PermittedCharacters" "PERMITTED" "[Z" (.ref aP)) (Ar_P : Arr Z h0 aP clP .boolean) (sz_P : clP.slots.size = 256) (tab_P : ∀ k, k < 256 → clP.slots[k]? = some (.int (own_perm k))) :
    MetFree l x (head1 (Jvm.Cond.code x code maxLocals ret :: ws) room_1) (fun a U => a = #[(.int p1), (.int p2)] ∧ Z.Warmed39 U.vm ∧ U.heap = h0) (fun _ _ _ _ _ => True) (fun _ U o U' => ∃ v L, o = .returned v ∧ Q0 Z p1 p2 aP clP h0 n0 v U'.heap L ∧ FrameEnd U o U' L 0 0) := by
  refine MetFree.of_bodySF (plainFor_of_name own_pn1) hisR ?_
  intro p e s m args below meth c s₁ Bd hml0 hP hK
  obtain ⟨rfl, hZ, hh⟩ := hP
  have hx := Bd.exec
  have hby := Bd.bytes
  have hml : c.maxLocals = 3 := hml0
  have hown : s.vm.findClass "com/example/einzug/einzug/rules/PermittedCharactersIsPermittedPinLaw" = some m.cls := findClass_of_methodNamed Bd.named
  have hnm := (name_of_methodNamed Bd.named Bd.method).1
  have X0 : Stand p l e room_1 s m #[(.int p1), (.int p2)] below meth c s₁ [] 0 0 := Stand.of_body Bd
  have e0 : s₁.heap = h0 := by rw [← hh, Bd.state]; rfl
  have N0 := Fr.nil n0
  refine own_top (Q := Q0 Z p1 p2 aP clP h0 n0) (ef_0 m p1 p2) ?_
  show own_G p.tables e below s₁ (mkF m 0 #[.val (.int p1), .val (.int p2), .unset] []) _
  refine own_go (fun t k => XS.iloadN X0.here hx rfl (hb hby at_0) rfl k) ?_
  show own_G p.tables e below s₁ (mkF m 1 #[.val (.int p1), .val (.int p2), .unset] [(.int p2)]) _
  refine own_go (fun t k => XS.iconst X0.here hx rfl (hb hby at_1) k) ?_
  show own_G p.tables e below s₁ (mkF m 2 #[.val (.int p1), .val (.int p2), .unset] [(.int (1 : Int32)), (.int p2)]) _
  refine own_go (fun t k => XS.iand X0.here hx rfl (hb hby at_2) rfl k) ?_
  show own_G p.tables e below s₁ (mkF m 3 #[.val (.int p1), .val (.int p2), .unset] [(.int (p2 &&& (1 : Int32)))]) _
  by_cases hc3_1 : (p2 &&& (1 : Int32)) = (0 : Int32)
  · skip
    refine own_go (fun t k => XS.ifNo X0.here hx rfl (hb hby at_3) rfl ((if0 _ _).trans (teq hc3_1).2) k) ?_
    show own_G p.tables e below s₁ (mkF m 6 #[.val (.int p1), .val (.int p2), .unset] []) _
    refine own_go (fun t k => XS.iloadN X0.here hx rfl (hb hby at_6) rfl k) ?_
    show own_G p.tables e below s₁ (mkF m 7 #[.val (.int p1), .val (.int p2), .unset] [(.int p1)]) _
    refine own_go (fun t k => XS.sipush X0.here hx rfl (hb hby at_7) k) ?_
    show own_G p.tables e below s₁ (mkF m 10 #[.val (.int p1), .val (.int p2), .unset] [(.int (511 : Int32)), (.int p1)]) _
    refine own_go (fun t k => XS.iand X0.here hx rfl (hb hby at_10) rfl k) ?_
    show own_G p.tables e below s₁ (mkF m 11 #[.val (.int p1), .val (.int p2), .unset] [(.int (p1 &&& (511 : Int32)))]) _
    refine own_go (fun t k => XS.goto X0.here hx rfl (pc0 := 11) (pc' := 15) rfl (hb hby at_11) (by decide) (by decide) k) ?_
    show own_G p.tables e below s₁ (mkF m 15 #[.val (.int p1), .val (.int p2), .unset] [(.int (p1 &&& (511 : Int32)))]) _
    refine own_go (fun t k => XS.istoreN X0.here hx rfl (hb hby at_15) rfl (l' := #[.val (.int p1), .val (.int p2), .val (.int (p1 &&& (511 : Int32)))]) rfl k) ?_
    show own_G p.tables e below s₁ (mkF m 16 #[.val (.int p1), .val (.int p2), .val (.int (p1 &&& (511 : Int32)))] []) _
    refine own_go (fun t k => XS.iloadN X0.here hx rfl (hb hby at_16) rfl k) ?_
    show own_G p.tables e below s₁ (mkF m 17 #[.val (.int p1), .val (.int p2), .val (.int (p1 &&& (511 : Int32)))] [(.int (p1 &&& (511 : Int32)))]) _
    obtain ⟨_, _, ⟨T2, L2, k2, n2⟩, -, X2, ⟨Lc2, hQ2, l2, y2, z2⟩, st2⟩ := Jvm.LawKit.callS X0 hx (y := (⟨"com/example/einzug/einzug/rules/PermittedCharacters", "isPermitted", "(I)Z"⟩ : MethodName)) hown (mvT hZ (hw _ (List.mem_of_getElem? (i := 0) rfl))) (mvT hZ (hw _ (List.mem_of_getElem? (i := 1) rfl))) (mvT hZ (hw _ (List.mem_of_getElem? (i := 2) rfl))) (mvT hZ (hw _ (List.mem_of_getElem? (i := 3) rfl))) (by decide) (backOf (W := 0) (rm1 l Z a0 hw [] (p1 &&& (511 : Int32)) aP clP h0 n0 Z0 S_P Ar_P sz_P tab_P) hZ (hw _ (List.mem_of_getElem? (i := 3) rfl)) (hw _ (List.mem_of_getElem? (i := 2) rfl)) (by decide) (by decide)) (g := (mkF m 17 #[.val (.int p1), .val (.int p2), .val (.int (p1 &&& (511 : Int32)))] [(.int (p1 &&& (511 : Int32)))])) rfl (by rw [hml]; rfl) (argsL := [(.int (p1 &&& (511 : Int32)))]) (rest := []) (lenOf own_pd0 rfl) rfl (by show 2 * 0 + _ ≤ _; exact Nat.le_of_eq rfl) (hb hby at_17) (fun _ _ => ⟨rfl, e0, (by decide : 0 + 0 ≤ _), (by decide : 0 + 0 ≤ _)⟩)
    dsimp only [Pt.U, Pt.locs, Pt.cells, Pt.slots] at X2 l2 y2 z2 st2 hQ2
    subst l2 y2 z2
    obtain ⟨rfl, N2q, e2⟩ := hQ2
    have N2 := Fr.app N0 N2q
    refine own_go st2 ?_
    show own_G p.tables e below T2 (mkF m 20 #[.val (.int p1), .val (.int p2), .val (.int (p1 &&& (511 : Int32)))] [(.int (own_isp (p1 &&& (511 : Int32))))]) _
    refine own_go (fun t k => XS.iloadN X2.here hx rfl (hb hby at_20) rfl k) ?_
    show own_G p.tables e below T2 (mkF m 21 #[.val (.int p1), .val (.int p2), .val (.int (p1 &&& (511 : Int32)))] [(.int (p1 &&& (511 : Int32))), (.int (own_isp (p1 &&& (511 : Int32))))]) _
    obtain ⟨_, _, ⟨T3, L3, k3, n3⟩, -, X3, ⟨Lc3, hQ3, l3, y3, z3⟩, st3⟩ := Jvm.LawKit.callS X2 hx (y := (⟨"com/example/einzug/einzug/rules/PermittedCharactersIsPermittedPinLaw", "ref", "(I)Z"⟩ : MethodName)) hown (mvT hZ (hw _ (List.mem_of_getElem? (i := 6) rfl))) (mvT hZ (hw _ (List.mem_of_getElem? (i := 7) rfl))) (mvT hZ (hw _ (List.mem_of_getElem? (i := 8) rfl))) (mvT hZ (hw _ (List.mem_of_getElem? (i := 9) rfl))) (by decide) (backOf (W := 1) (rm2 l Z a0 hw [] (p1 &&& (511 : Int32)) h0 n0 Z0) hZ (hw _ (List.mem_of_getElem? (i := 9) rfl)) (hw _ (List.mem_of_getElem? (i := 8) rfl)) (by decide) (by decide)) (g := (mkF m 21 #[.val (.int p1), .val (.int p2), .val (.int (p1 &&& (511 : Int32)))] [(.int (p1 &&& (511 : Int32))), (.int (own_isp (p1 &&& (511 : Int32))))])) rfl (by rw [hml]; rfl) (argsL := [(.int (p1 &&& (511 : Int32)))]) (rest := [(.int (own_isp (p1 &&& (511 : Int32))))]) (lenOf own_pd0 rfl) rfl (by show 2 * 0 + _ ≤ _; exact Nat.le_of_eq rfl) (hb hby at_21) (fun _ _ => ⟨rfl, e2, (by decide : 0 + 0 ≤ _), (by decide : 0 + 0 ≤ _)⟩)
    dsimp only [Pt.U, Pt.locs, Pt.cells, Pt.slots] at X3 l3 y3 z3 st3 hQ3
    subst l3 y3 z3
    obtain ⟨rfl, N3q, e3⟩ := hQ3
    have N3 := Fr.app N2 N3q
    refine own_go st3 ?_
    show own_G p.tables e below T3 (mkF m 24 #[.val (.int p1), .val (.int p2), .val (.int (p1 &&& (511 : Int32)))] [(.int (own_ref (p1 &&& (511 : Int32)))), (.int (own_isp (p1 &&& (511 : Int32))))]) _
    refine own_go (fun t k => XS.icmpNo X3.here hx rfl (hb hby at_24) rfl (teq (own_same _)).2 k) ?_
    show own_G p.tables e below T3 (mkF m 27 #[.val (.int p1), .val (.int p2), .val (.int (p1 &&& (511 : Int32)))] []) _
    refine own_go (fun t k => XS.iconst X3.here hx rfl (hb hby at_27) k) ?_
    show own_G p.tables e below T3 (mkF m 28 #[.val (.int p1), .val (.int p2), .val (.int (p1 &&& (511 : Int32)))] [(.int (1 : Int32))]) _
    refine own_go (fun t k => XS.goto X3.here hx rfl (pc0 := 28) (pc' := 32) rfl (hb hby at_28) (by decide) (by decide) k) ?_
    show own_G p.tables e below T3 (mkF m 32 #[.val (.int p1), .val (.int p2), .val (.int (p1 &&& (511 : Int32)))] [(.int (1 : Int32))]) _
    exact own_end (v := some (.int (1 : Int32))) X3 Bd.notSynchronized (fun h => by rw [Bd.returns] at h; cases h) (fun fs hr => retN X3 hx (z := (1 : Int32)) (t := .boolean) Bd.returns (by simp) (hb hby at_32) hr) e3 ⟨rfl, N3⟩ (by decide) (by decide)
  · skip
    refine own_go (fun t k => XS.ifYes X0.here hx rfl (pc0 := 3) (pc' := 14) rfl (hb hby at_3) rfl ((if0 _ _).trans (feq hc3_1).2) (by decide) (by decide) k) ?_
    show own_G p.tables e below s₁ (mkF m 14 #[.val (.int p1), .val (.int p2), .unset] []) _
    refine own_go (fun t k => XS.iloadN X0.here hx rfl (hb hby at_14) rfl k) ?_
    show own_G p.tables e below s₁ (mkF m 15 #[.val (.int p1), .val (.int p2), .unset] [(.int p1)]) _
    refine own_go (fun t k => XS.istoreN X0.here hx rfl (hb hby at_15) rfl (l' := #[.val (.int p1), .val (.int p2), .val (.int p1)]) rfl k) ?_
    show own_G p.tables e below s₁ (mkF m 16 #[.val (.int p1), .val (.int p2), .val (.int p1)] []) _
    refine own_go (fun t k => XS.iloadN X0.here hx rfl (hb hby at_16) rfl k) ?_
    show own_G p.tables e below s₁ (mkF m 17 #[.val (.int p1), .val (.int p2), .val (.int p1)] [(.int p1)]) _
    obtain ⟨_, _, ⟨T4, L4, k4, n4⟩, -, X4, ⟨Lc4, hQ4, l4, y4, z4⟩, st4⟩ := Jvm.LawKit.callS X0 hx (y := (⟨"com/example/einzug/einzug/rules/PermittedCharacters", "isPermitted", "(I)Z"⟩ : MethodName)) hown (mvT hZ (hw _ (List.mem_of_getElem? (i := 0) rfl))) (mvT hZ (hw _ (List.mem_of_getElem? (i := 1) rfl))) (mvT hZ (hw _ (List.mem_of_getElem? (i := 2) rfl))) (mvT hZ (hw _ (List.mem_of_getElem? (i := 3) rfl))) (by decide) (backOf (W := 0) (rm1 l Z a0 hw [] p1 aP clP h0 n0 Z0 S_P Ar_P sz_P tab_P) hZ (hw _ (List.mem_of_getElem? (i := 3) rfl)) (hw _ (List.mem_of_getElem? (i := 2) rfl)) (by decide) (by decide)) (g := (mkF m 17 #[.val (.int p1), .val (.int p2), .val (.int p1)] [(.int p1)])) rfl (by rw [hml]; rfl) (argsL := [(.int p1)]) (rest := []) (lenOf own_pd0 rfl) rfl (by show 2 * 0 + _ ≤ _; exact Nat.le_of_eq rfl) (hb hby at_17) (fun _ _ => ⟨rfl, e0, (by decide : 0 + 0 ≤ _), (by decide : 0 + 0 ≤ _)⟩)
    dsimp only [Pt.U, Pt.locs, Pt.cells, Pt.slots] at X4 l4 y4 z4 st4 hQ4
    subst l4 y4 z4
    obtain ⟨rfl, N4q, e4⟩ := hQ4
    have N4 := Fr.app N0 N4q
    refine own_go st4 ?_
    show own_G p.tables e below T4 (mkF m 20 #[.val (.int p1), .val (.int p2), .val (.int p1)] [(.int (own_isp p1))]) _
    refine own_go (fun t k => XS.iloadN X4.here hx rfl (hb hby at_20) rfl k) ?_
    show own_G p.tables e below T4 (mkF m 21 #[.val (.int p1), .val (.int p2), .val (.int p1)] [(.int p1), (.int (own_isp p1))]) _
    obtain ⟨_, _, ⟨T5, L5, k5, n5⟩, -, X5, ⟨Lc5, hQ5, l5, y5, z5⟩, st5⟩ := Jvm.LawKit.callS X4 hx (y := (⟨"com/example/einzug/einzug/rules/PermittedCharactersIsPermittedPinLaw", "ref", "(I)Z"⟩ : MethodName)) hown (mvT hZ (hw _ (List.mem_of_getElem? (i := 6) rfl))) (mvT hZ (hw _ (List.mem_of_getElem? (i := 7) rfl))) (mvT hZ (hw _ (List.mem_of_getElem? (i := 8) rfl))) (mvT hZ (hw _ (List.mem_of_getElem? (i := 9) rfl))) (by decide) (backOf (W := 1) (rm2 l Z a0 hw [] p1 h0 n0 Z0) hZ (hw _ (List.mem_of_getElem? (i := 9) rfl)) (hw _ (List.mem_of_getElem? (i := 8) rfl)) (by decide) (by decide)) (g := (mkF m 21 #[.val (.int p1), .val (.int p2), .val (.int p1)] [(.int p1), (.int (own_isp p1))])) rfl (by rw [hml]; rfl) (argsL := [(.int p1)]) (rest := [(.int (own_isp p1))]) (lenOf own_pd0 rfl) rfl (by show 2 * 0 + _ ≤ _; exact Nat.le_of_eq rfl) (hb hby at_21) (fun _ _ => ⟨rfl, e4, (by decide : 0 + 0 ≤ _), (by decide : 0 + 0 ≤ _)⟩)
    dsimp only [Pt.U, Pt.locs, Pt.cells, Pt.slots] at X5 l5 y5 z5 st5 hQ5
    subst l5 y5 z5
    obtain ⟨rfl, N5q, e5⟩ := hQ5
    have N5 := Fr.app N4 N5q
    refine own_go st5 ?_
    show own_G p.tables e below T5 (mkF m 24 #[.val (.int p1), .val (.int p2), .val (.int p1)] [(.int (own_ref p1)), (.int (own_isp p1))]) _
    refine own_go (fun t k => XS.icmpNo X5.here hx rfl (hb hby at_24) rfl (teq (own_same _)).2 k) ?_
    show own_G p.tables e below T5 (mkF m 27 #[.val (.int p1), .val (.int p2), .val (.int p1)] []) _
    refine own_go (fun t k => XS.iconst X5.here hx rfl (hb hby at_27) k) ?_
    show own_G p.tables e below T5 (mkF m 28 #[.val (.int p1), .val (.int p2), .val (.int p1)] [(.int (1 : Int32))]) _
    refine own_go (fun t k => XS.goto X5.here hx rfl (pc0 := 28) (pc' := 32) rfl (hb hby at_28) (by decide) (by decide) k) ?_
    show own_G p.tables e below T5 (mkF m 32 #[.val (.int p1), .val (.int p2), .val (.int p1)] [(.int (1 : Int32))]) _
    exact own_end (v := some (.int (1 : Int32))) X5 Bd.notSynchronized (fun h => by rw [Bd.returns] at h; cases h) (fun fs hr => retN X5 hx (z := (1 : Int32)) (t := .boolean) Bd.returns (by simp) (hb hby at_32) hr) e5 ⟨rfl, N5⟩ (by decide) (by decide)
set_option maxRecDepth 65536 in
set_option maxHeartbeats 40000000 in
theorem comes_1 {Post : Tables → Env → Array Value → State → Outcome → State → Prop} (hpost : ∀ tb e args s v u, (limb_1_1.after args s (.returned v) u = true ∧ limb_1_2.after args s (.returned v) u = true ∧ True) → FrameEnd s (.returned v) u (Jvm.fieldLocs frame_1_writes args s ++ Jvm.arrayLocs frame_1_arrays args s ++ Jvm.staticLocs frame_1_statics s) 0 0 → Post tb e args s (.returned v) u) :
    ArmFor flags0 classFile x code maxLocals ret World_1 tables_1 room_1 Calls_1 rest_1 Pre_1 Post := by
  intro l hfl _ _ p e ha hc hk s m args below hf hA hF happ hP
  obtain ⟨hcalls, hrest, hpre⟩ := hP
  obtain ⟨-, -, -, hnamed, -, -, -, hat⟩ := (Spec.applies_iff hf).mp happ
  obtain ⟨hg, hn⟩ := and_e (Cond.before_iff.mp (show (Jvm.Cond.and given_1 narrow_1).before args s = true from hpre))
  obtain ⟨g0, gr0⟩ := and_e hg
  obtain ⟨g1, gr1⟩ := and_e gr0
  obtain ⟨w0, w1, rfl⟩ : ∃ w0 w1 : Value, args = #[w0, w1] := by
    have hs : args.size = 2 := by simpa [Cond.value, given_1] using g0
    obtain ⟨L⟩ := args
    match L, hs with
    | [w0, w1], _ => exact ⟨w0, w1, rfl⟩
  have hw := fun d (hd : d ∈ tables_1) => atoms_spec (ws := Jvm.Cond.code x code maxLocals ret :: tables_1) hat d (List.mem_cons_of_mem _ hd)
  have hfit : Fit s := fun {y c} hc i hi => by
    obtain ⟨ha, rfl⟩ := Array.getElem?_eq_some_iff.mp hc
    have q := List.all_eq_true.mp ((Array.all_eq_true_iff_forall_mem.mp hF) _ (Array.getElem_mem ha)) i (List.mem_range.mpr hi)
    simpa [Array.getElem?_eq_getElem hi] using q
  obtain ⟨i0, ei0⟩ := is_v g1
  obtain rfl : w0 = (.int i0) := Option.some.inj ei0
  obtain ⟨i1, ei1⟩ := is_v gr1
  obtain rfl : w1 = (.int i1) := Option.some.inj ei1
  obtain ⟨aP, clP, S_P, Ar_P, sz_P, tab_P⟩ := own_narrow hw hn
  obtain ⟨n, o, h1, h2, h3, _, L, rfl, ⟨rfl, N⟩, hq⟩ := rm0 l s _ hw tables_1 i0 i1 aP clP s.heap s.heap.size (Nat.le_refl _) S_P Ar_P sz_P tab_P p e ha hc hk s m _ below hf ((Spec.applies_iff_loose hf).mp happ).1 ⟨rfl, State.Warmed39.refl s, rfl⟩ trivial
  refine ⟨n, _, h1, h2, h3, hpost _ _ _ _ _ _ ⟨Cond.after_iff.mpr rfl, Cond.after_iff.mpr (eq_i res_at (Term.int_eval (1)) rfl), trivial⟩ ⟨hq.1, hq.2.1, (hq.2.2.sift fun y hy => Or.inr (N y hy)).mono (by decide) (by decide)⟩⟩
theorem main_1_1 : Claimed_1_1 := comes_1 fun _ _ _ _ _ _ h hF => ⟨h.1, hF⟩
theorem main_1_2 : Claimed_1_2 := comes_1 fun _ _ _ _ _ _ h hF => ⟨h.2.1, hF⟩
end Jvm.Pilot.@@N@@
namespace Jvm.Pilot.@@N@@
open Jvm Jvm.ClassFile Sem Op Lib Jvm.Free Jvm.Stand Jvm.Pilot.@@N@@.Jvm.D
/-! MADE BY PROGRAM (witnessworld.py) out of the Statement's table words and the real class files: 11 classes; the members and pool entries that the words name. The judged class is class 1, her method 1. -/
namespace start1
open Jvm.ClassFile
def u (s : String) : CpInfo := .utf8 (stringToUtf16 s)
/-- a pool by its gaps: so many unusable entries, then the entry; so many at the end -/
def gap : Nat → List CpInfo → List CpInfo
  | 0, r => r
  | n + 1, r => .unusable :: gap n r
def poolList (es : List (Nat × CpInfo)) (last : Nat) : List CpInfo := es.foldr (fun e r => gap e.1 (e.2 :: r)) (gap last [])
def pool (es : List (Nat × CpInfo)) (last : Nat) : Array CpInfo := ⟨poolList es last⟩
def fileOf (pool : Array CpInfo) (this : Nat) (attrs : Array Attribute := #[]) (ms : Array MethodInfo := #[]) (fl : Nat := 33) (sup : Nat := 0) (ifs : Array Nat := #[]) (fds : Array FieldInfo := #[]) : ClassFile where
  minorVersion := 0
  majorVersion := 65
  constantPool := pool
  accessFlags := fl
  thisClass := this
  superClass := sup
  interfaces := ifs
  fields := fds
  methods := ms
  attributes := attrs
def plain (name : String) (sup : Option ClassId) : Class where
  name := name
  kind := .ordinary
  loader := none
  accessFlags := 33
  super := sup
  interfaces := #[]
  cf := none
  fields := #[]
  methods := #[]
  instanceTypes := #[]
  staticTypes := #[]
  resolved := #[]
  callSites := []
  init := .initialized
  statics := none
  mirror := none

def pool0 : Array CpInfo := pool [(5, u "<init>"), (0, u "()V"), (1, .class_ 10), (1, u "java/lang/Object")] 113

def k0m0 : Method := { name := "<init>", desc := "()V", sig := { parameters := [], returnType := none }, accessFlags := 1, code := none }
/-- java/lang/Object -/
def k0 : Class := { plain "java/lang/Object" none with
  accessFlags := 33
  interfaces := #[]
  cf := some (fileOf pool0 8 #[] #[{ accessFlags := 1, nameIndex := 5, descriptorIndex := 6, attributes := #[] }] 33 0 #[] #[])
  fields := #[]
  methods := #[k0m0]
  instanceTypes := #[]
  staticTypes := #[]
  resolved := Array.replicate 124 none
  statics := none }

def pool1 : Array CpInfo := pool [(2, .class_ 4), (1, u "java/lang/Object"), (0, u "<init>"), (0, u "()V"), (0, .methodref 8 9), (0, .class_ 10), (0, .nameAndType 11 12), (0, u "com/example/einzug/einzug/rules/PermittedCharacters"), (0, u "isPermitted"), (0, u "(I)Z"), (0, .methodref 14 15), (0, .class_ 16), (0, .nameAndType 17 12), (0, u "com/example/einzug/einzug/rules/PermittedCharactersIsPermittedPinLaw"), (0, u "ref"), (2, u "law"), (0, u "(II)Z")] 3

def k1m0 : Method := { name := "<init>", desc := "()V", sig := { parameters := [], returnType := none }, accessFlags := 2, code := none }
def k1c1 : Code := { maxStack := 2, maxLocals := 3, code := code, exceptionTable := #[], attributes := #[] }
def k1m1 : Method := { name := "law", desc := "(II)Z", sig := { parameters := [.int, .int], returnType := some .boolean }, accessFlags := 9, code := some k1c1 }
def k1c2 : Code := { maxStack := 2, maxLocals := 1, code := method_3_code, exceptionTable := #[], attributes := #[] }
def k1m2 : Method := { name := "ref", desc := "(I)Z", sig := { parameters := [.int], returnType := some .boolean }, accessFlags := 10, code := some k1c2 }
/-- com/example/einzug/einzug/rules/PermittedCharactersIsPermittedPinLaw -/
def k1 : Class := { plain "com/example/einzug/einzug/rules/PermittedCharactersIsPermittedPinLaw" (some 0) with
  accessFlags := 49
  interfaces := #[]
  cf := some (fileOf pool1 14 #[] #[{ accessFlags := 2, nameIndex := 5, descriptorIndex := 6, attributes := #[] }, { accessFlags := 9, nameIndex := 20, descriptorIndex := 21, attributes := #[] }, { accessFlags := 10, nameIndex := 17, descriptorIndex := 12, attributes := #[] }] 49 2 #[] #[])
  fields := #[]
  methods := #[k1m0, k1m1, k1m2]
  instanceTypes := #[]
  staticTypes := #[]
  resolved := Array.replicate 25 none
  statics := none }

def pool2 : Array CpInfo := pool [(2, .class_ 4), (1, u "java/lang/Object"), (0, u "<init>"), (0, u "()V"), (0, .fieldref 8 9), (0, .class_ 10), (0, .nameAndType 11 12), (0, u "com/example/einzug/einzug/rules/PermittedCharacters"), (0, u "PERMITTED"), (0, u "[Z"), (12, u "isPermitted"), (0, u "(I)Z")] 87

def k2m0 : Method := { name := "<init>", desc := "()V", sig := { parameters := [], returnType := none }, accessFlags := 2, code := none }
def k2c1 : Code := { maxStack := 2, maxLocals := 1, code := prog_184_method_2_code, exceptionTable := #[], attributes := #[] }
def k2m1 : Method := { name := "isPermitted", desc := "(I)Z", sig := { parameters := [.int], returnType := some .boolean }, accessFlags := 9, code := some k2c1 }
/-- com/example/einzug/einzug/rules/PermittedCharacters -/
def k2 : Class := { plain "com/example/einzug/einzug/rules/PermittedCharacters" (some 0) with
  accessFlags := 49
  interfaces := #[]
  cf := some (fileOf pool2 8 #[] #[{ accessFlags := 2, nameIndex := 5, descriptorIndex := 6, attributes := #[] }, { accessFlags := 9, nameIndex := 25, descriptorIndex := 26, attributes := #[] }] 49 2 #[] #[{ accessFlags := 26, nameIndex := 11, descriptorIndex := 12, attributes := #[] }])
  fields := #[{ name := "PERMITTED", type := (.array .boolean), accessFlags := 26, slot := 0, constantValue := 0 }]
  methods := #[k2m0, k2m1]
  instanceTypes := #[]
  staticTypes := #[(.array .boolean)]
  resolved := Array.replicate 114 none
  statics := some 0 }

def pool3 : Array CpInfo := pool [(1, u "java/lang/Cloneable"), (0, .class_ 1), (0, u "java/lang/Object"), (0, .class_ 3)] 3

/-- java/lang/Cloneable -/
def k3 : Class := { plain "java/lang/Cloneable" (some 0) with
  accessFlags := 1537
  interfaces := #[]
  cf := some (fileOf pool3 2 #[] #[] 1537 4 #[] #[])
  fields := #[]
  methods := #[]
  instanceTypes := #[]
  staticTypes := #[]
  resolved := Array.replicate 8 none
  statics := none }

def pool4 : Array CpInfo := pool [(1, u "java/io/Serializable"), (0, .class_ 1), (0, u "java/lang/Object"), (0, .class_ 3)] 3

/-- java/io/Serializable -/
def k4 : Class := { plain "java/io/Serializable" (some 0) with
  accessFlags := 1537
  interfaces := #[]
  cf := some (fileOf pool4 2 #[] #[] 1537 4 #[] #[])
  fields := #[]
  methods := #[]
  instanceTypes := #[]
  staticTypes := #[]
  resolved := Array.replicate 8 none
  statics := none }

/-- the primitive boolean -/
def k5 : Class := { plain "boolean" none with kind := .primitive 'Z', accessFlags := 0x411 }
/-- [Z -/
def k6 : Class := { plain "[Z" (some 0) with kind := .array 5 .boolean, interfaces := #[3, 4], accessFlags := 1041 }

/-- the primitive byte -/
def k7 : Class := { plain "byte" none with kind := .primitive 'B', accessFlags := 0x411 }
/-- [B -/
def k8 : Class := { plain "[B" (some 0) with kind := .array 7 .byte, interfaces := #[3, 4], accessFlags := 1041 }

/-- the primitive int -/
def k9 : Class := { plain "int" none with kind := .primitive 'I', accessFlags := 0x411 }
/-- [I -/
def k10 : Class := { plain "[I" (some 0) with kind := .array 9 .int, interfaces := #[3, 4], accessFlags := 1041 }

def heap : Heap := #[{ cls := 2, slots := #[.ref 1], vm := .statics 2 },
  { cls := 6, slots := #[.int 0, .int 0, .int 0, .int 0, .int 0, .int 0, .int 0, .int 0, .int 0, .int 0, .int 0, .int 0, .int 0, .int 0, .int 0, .int 0, .int 0, .int 0, .int 0, .int 0, .int 0, .int 0, .int 0, .int 0, .int 0, .int 0, .int 0, .int 0, .int 0, .int 0, .int 0, .int 0, .int 1, .int 1, .int 1, .int 1, .int 1, .int 1, .int 1, .int 1, .int 1, .int 1, .int 1, .int 1, .int 1, .int 1, .int 1, .int 1, .int 1, .int 1, .int 1, .int 1, .int 1, .int 1, .int 1, .int 1, .int 1, .int 1, .int 1, .int 1, .int 1, .int 1, .int 1, .int 1, .int 1, .int 1, .int 1, .int 1, .int 1, .int 1, .int 1, .int 1, .int 1, .int 1, .int 1, .int 1, .int 1, .int 1, .int 1, .int 1, .int 1, .int 1, .int 1, .int 1, .int 1, .int 1, .int 1, .int 1, .int 1, .int 1, .int 1, .int 1, .int 1, .int 1, .int 0, .int 1, .int 1, .int 1, .int 1, .int 1, .int 1, .int 1, .int 1, .int 1, .int 1, .int 1, .int 1, .int 1, .int 1, .int 1, .int 1, .int 1, .int 1, .int 1, .int 1, .int 1, .int 1, .int 1, .int 1, .int 1, .int 1, .int 1, .int 1, .int 1, .int 0, .int 1, .int 1, .int 0, .int 0, .int 0, .int 0, .int 0, .int 0, .int 0, .int 0, .int 0, .int 0, .int 0, .int 0, .int 0, .int 0, .int 0, .int 0, .int 0, .int 0, .int 0, .int 0, .int 0, .int 0, .int 0, .int 0, .int 0, .int 0, .int 0, .int 0, .int 0, .int 0, .int 0, .int 0, .int 0, .int 0, .int 0, .int 0, .int 1, .int 0, .int 0, .int 0, .int 0, .int 0, .int 0, .int 0, .int 0, .int 0, .int 0, .int 0, .int 0, .int 0, .int 0, .int 0, .int 0, .int 1, .int 0, .int 0, .int 0, .int 0, .int 0, .int 0, .int 0, .int 0, .int 0, .int 0, .int 0, .int 1, .int 1, .int 1, .int 0, .int 1, .int 0, .int 0, .int 1, .int 1, .int 1, .int 1, .int 1, .int 1, .int 1, .int 1, .int 1, .int 0, .int 1, .int 1, .int 1, .int 1, .int 0, .int 1, .int 0, .int 0, .int 1, .int 1, .int 1, .int 1, .int 0, .int 0, .int 1, .int 1, .int 1, .int 1, .int 0, .int 1, .int 0, .int 0, .int 1, .int 1, .int 1, .int 1, .int 1, .int 1, .int 1, .int 1, .int 1, .int 0, .int 1, .int 1, .int 1, .int 1, .int 0, .int 1, .int 1, .int 0, .int 1, .int 1, .int 1, .int 1, .int 1, .int 0, .int 0], vm := .none }]
def classes : Array Class := #[k0, k1, k2, k3, k4, k5, k6, k7, k8, k9, k10]
def interned : List (Array UInt16 × Addr) := []
def slotsUsed : Nat := 257
def theMethod : MethodId := ⟨1, 1⟩
def args0 : Array Value := #[.int 5, .int 1]
def aboutOver (below : List Frame) : State where
  vm := { classes := classes, interned := interned.toArray }
  heap := heap
  slotsUsed := slotsUsed
  threads := #[{ frames := .invoking theMethod args0 :: below }]
def below0 : List Frame := [.native { method := ⟨0, 0⟩, args := #[] }]
def about1 : State := aboutOver below0
def p0 : Program := .bare "" "" ""
def e0 : Env := launch0.env 0 0 0
theorem w_frames : about1.frames = Frame.invoking theMethod args0 :: below0 := rfl
set_option maxRecDepth 65536 in
theorem w_args : argsFit about1.vm theMethod args0 = true := by decide +kernel
set_option maxRecDepth 65536 in
theorem w_heap : heapFits about1 = true := by decide +kernel
set_option maxRecDepth 65536 in
theorem w_runnable : about1.curStatus? = some .runnable := by decide +kernel
set_option maxRecDepth 65536 in
theorem w_alone : about1.alone = true := by decide +kernel
set_option maxRecDepth 65536 in
theorem w_named : about1.methodNamed? x = some theMethod := by decide +kernel
set_option maxRecDepth 65536 in
theorem w_hears : about1.hears theMethod below0 = true := by decide +kernel
set_option maxRecDepth 65536 in
theorem w_ripe : about1.ripe theMethod args0 below0 = true := by decide +kernel
theorem w_running : about1.status = .running := rfl
set_option maxRecDepth 65536 in
theorem w_room : about1.hasRoom e0.platform room_1 = true :=
  launch0.hasRoom_least _ room_1 (by decide +kernel) (by decide +kernel) (by decide +kernel) (by decide +kernel) (by decide +kernel) (by decide +kernel)
theorem allAtoms_all (ts : List Jvm.Cond) (a : Array Jvm.Value) (st : Jvm.State) : (allAtoms ts).before a st = ts.all (fun c => c.before a st) := by
  induction ts with
  | nil => rfl
  | cons c t ih =>
    show (Jvm.Cond.and c (allAtoms t)).before a st = _
    rw [Jvm.Cond.before_and, ih, List.all_cons]
def words1 : List Jvm.Cond := Jvm.Cond.code x code maxLocals ret :: tables_1
/-- a 'code' word, met by the world's own term for the bytes: nothing is compared byte by byte -/
theorem code_word {y : MethodName} {bytes : ByteArray} {mx : Nat} {rt : Option FieldType} {a : Array Value} {s : State} {m : MethodId} {meth : Method} {c : Code} (h1 : s.methodNamed? y = some m) (h2 : s.vm.method? m = some meth) (h3 : meth.code = some c) (h4 : c.code = bytes)
    (h5 : (c.maxLocals == mx && c.exceptionTable.isEmpty && decide (c.maxStack ≤ mostOperands) && decide (meth.sig.returnType = rt) && !meth.locks && decide (parseMethodDescriptor y.desc = some meth.sig)) = true) : (Jvm.Cond.code y bytes mx rt).before a s = true := by
  simp only [Bool.and_eq_true, beq_iff_eq, Bool.not_eq_true', decide_eq_true_eq] at h5
  obtain ⟨⟨⟨⟨⟨g1, g2⟩, g3⟩, g4⟩, g5⟩, g6⟩ := h5
  simp [Cond.before, Cond.holds, Cond.value, h1, h2, h3, h4, g1, g2, g3, g4, g5, g6]
def isCode : Jvm.Cond → Bool
  | .code _ _ _ _ => true
  | _ => false
theorem all_split {L : List Jvm.Cond} {P : Jvm.Cond → Bool} (h1 : L.all (fun c => isCode c || P c) = true) (h2 : ∀ c ∈ L.filter isCode, P c = true) : L.all P = true := by
  refine List.all_eq_true.mpr fun c hc => ?_
  have h := List.all_eq_true.mp h1 c hc
  rcases Bool.eq_false_or_eq_true (isCode c) with hi | hi
  · exact h2 c (List.mem_filter.mpr ⟨hc, hi⟩)
  · simpa [hi] using h
set_option maxRecDepth 65536 in
theorem w_c0 : (Jvm.Cond.code x code maxLocals ret).before args0 about1 = true := code_word (m := ⟨1, 1⟩) (meth := k1m1) (c := k1c1) (by decide +kernel) rfl rfl rfl (by decide +kernel)
set_option maxRecDepth 65536 in
theorem w_c1 : (Jvm.Cond.code ({ cls := "com/example/einzug/einzug/rules/PermittedCharacters", name := "isPermitted", desc := "(I)Z" } : Jvm.MethodName) prog_184_method_2_code (1 : Nat) (Option.some Jvm.ClassFile.FieldType.boolean)).before args0 about1 = true := code_word (m := ⟨2, 1⟩) (meth := k2m1) (c := k2c1) (by decide +kernel) rfl rfl rfl (by decide +kernel)
set_option maxRecDepth 65536 in
theorem w_c2 : (Jvm.Cond.code ({ cls := "com/example/einzug/einzug/rules/PermittedCharactersIsPermittedPinLaw", name := "ref", desc := "(I)Z" } : Jvm.MethodName) method_3_code (1 : Nat) (Option.some Jvm.ClassFile.FieldType.boolean)).before args0 about1 = true := code_word (m := ⟨1, 2⟩) (meth := k1m2) (c := k1c2) (by decide +kernel) rfl rfl rfl (by decide +kernel)
def codes1 : List Jvm.Cond := [Jvm.Cond.code x code maxLocals ret, Jvm.Cond.code ({ cls := "com/example/einzug/einzug/rules/PermittedCharacters", name := "isPermitted", desc := "(I)Z" } : Jvm.MethodName) prog_184_method_2_code (1 : Nat) (Option.some Jvm.ClassFile.FieldType.boolean), Jvm.Cond.code ({ cls := "com/example/einzug/einzug/rules/PermittedCharactersIsPermittedPinLaw", name := "ref", desc := "(I)Z" } : Jvm.MethodName) method_3_code (1 : Nat) (Option.some Jvm.ClassFile.FieldType.boolean)]
set_option maxRecDepth 65536 in
theorem codes_eq : words1.filter isCode = codes1 := rfl
theorem w_codes : ∀ c ∈ words1.filter isCode, c.before args0 about1 = true := by
  rw [codes_eq]
  intro c hc
  simp only [codes1, List.mem_cons, List.not_mem_nil, or_false] at hc
  rcases hc with rfl | rfl | rfl
  · exact w_c0
  · exact w_c1
  · exact w_c2
set_option maxRecDepth 65536 in
theorem w_t1 : words1.all (fun c => isCode c || c.before args0 about1) = true := by decide +kernel
theorem w_tables : (allAtoms (Jvm.Cond.code x code maxLocals ret :: tables_1)).before args0 about1 = true := by
  rw [allAtoms_all]
  show words1.all (fun c => c.before args0 about1) = true
  refine all_split ?_ w_codes
  rw [w_t1]
set_option maxRecDepth 65536 in
theorem w_case : (Jvm.Cond.and given_1 narrow_1).before args0 about1 = true := by decide +kernel
theorem w_applies : (headSpec (Jvm.Cond.code x code maxLocals ret :: tables_1) room_1).applies x e0.platform about1 = true :=
  (Spec.applies_iff w_frames).mpr ⟨w_running, w_runnable, w_alone, w_named, w_hears, w_ripe, w_room, w_tables⟩
theorem atStart : AtStart classFile x code maxLocals ret World_1 tables_1 room_1 Calls_1 rest_1 Pre_1 launch0 p0 e0 about1 theMethod args0 below0 :=
  ⟨lists_1, trivial, launch0.admits_env _ _ _, launch0.least_env, fairChoices_fair.cas, fairChoices_fair.clock, w_frames, w_args, w_heap, w_applies, trivial, trivial, w_case⟩
end start1
theorem witness_1 : WitnessClaimed_1 := ⟨start1.p0, start1.e0, start1.about1, start1.theMethod, start1.args0, start1.below0, start1.atStart⟩
end Jvm.Pilot.@@N@@
