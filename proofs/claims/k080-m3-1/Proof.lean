import JvmDerived
import JvmDerived.Pilot.@@N@@Statement
import JvmDerived.Pilot.@@N@@Code
set_option linter.unusedVariables false
set_option linter.unusedSimpArgs false
namespace Jvm.RoadKit
open Sem ClassFile Op Lib Jvm.Stand Jvm.Free Jvm.LawKit
section New
variable {p : Program} {l : Launch} {e : Env} {R : Room} {s : State} {m : MethodId} {args : Array Value} {below : List Frame} {meth : Method} {c : Code} {T : State} {locs : List Loc} {cells slots : Nat}
theorem retI (X : Stand p l e R s m args below meth c T locs cells slots) (hx : p.tables.exec = Jvm.exec) {pc : Nat} {Ls : Array Slot} {z : Int32} {rest : List Value} (hret : meth.sig.returnType = some .int) (hd : decode c.code pc = .ok (.ireturn, 1)) {fs : List Frame}
    (hl : ∀ (f : JFrame) (acts : List Action), f.method = m → f.locked = none → f.entered = [] → (doReturn e (T.setTop f) acts (some (.int z))).1 = T.setFrames fs) : Steps p.tables e below (T.setTop (mkF m pc Ls (.int z :: rest))) (T.setFrames fs) := by
  have hm' : T.vm.method? m = some meth := X.method'
  have hn : narrow .int (.int z) = .int z := rfl
  show Steps p.tables e below (T.setTop { method := m, pc := pc, locals := Ls, stack := _ :: rest, locked := none }) _
  jvm_step X.here [X.here.top, hx, hd, hm', hret, hn]
  first | (intro acts; rw [hl _ acts rfl rfl rfl]) | rw [hl _ _ rfl rfl rfl]
  exact Steps.refl _
theorem own_retJ (X : Stand p l e R s m args below meth c T locs cells slots) (hx : p.tables.exec = Jvm.exec) {pc : Nat} {Ls : Array Slot} {z : Int64} {rest : List Value} (hret : meth.sig.returnType = some .long) (hd : decode c.code pc = .ok (.lreturn, 1)) {fs : List Frame}
    (hl : ∀ (f : JFrame) (acts : List Action), f.method = m → f.locked = none → f.entered = [] → (doReturn e (T.setTop f) acts (some (.long z))).1 = T.setFrames fs) : Steps p.tables e below (T.setTop (mkF m pc Ls (.long z :: rest))) (T.setFrames fs) := by
  have hm' : T.vm.method? m = some meth := X.method'
  show Steps p.tables e below (T.setTop { method := m, pc := pc, locals := Ls, stack := _ :: rest, locked := none }) _
  jvm_step X.here [X.here.top, hx, hd, hm', hret, narrow]
  first | (intro acts; rw [hl _ acts rfl rfl rfl]) | rw [hl _ _ rfl rfl rfl]
  exact Steps.refl _
theorem own_retR (X : Stand p l e R s m args below meth c T locs cells slots) (hx : p.tables.exec = Jvm.exec) {pc : Nat} {Ls : Array Slot} {z : Value} (hz : z.isRef = true) {rest : List Value} {t : FieldType} (hret : meth.sig.returnType = some t) (ht : t.isReference = true) (hd : decode c.code pc = .ok (.areturn, 1)) {fs : List Frame}
    (hl : ∀ (f : JFrame) (acts : List Action), f.method = m → f.locked = none → f.entered = [] → (doReturn e (T.setTop f) acts (some z)).1 = T.setFrames fs) : Steps p.tables e below (T.setTop (mkF m pc Ls (z :: rest))) (T.setFrames fs) := by
  have hm' : T.vm.method? m = some meth := X.method'
  show Steps p.tables e below (T.setTop { method := m, pc := pc, locals := Ls, stack := _ :: rest, locked := none }) _
  rcases ref_cases hz with rfl | ⟨a, rfl⟩ <;> cases t <;> first
    | (simp [FieldType.isReference] at ht; done)
    | (jvm_step X.here [X.here.top, hx, hd, hm', hret, Value.isRef, FieldType.isReference]
       first | (intro acts; rw [hl _ acts rfl rfl rfl]) | rw [hl _ _ rfl rfl rfl]
       exact Steps.refl _)
/-- the walk goes on: from this frame the body comes to an end at which P holds -/
def own_G (tb : Tables) (e : Env) (below : List Frame) (T : State) (f : JFrame) (P : State → Outcome → Prop) : Prop := ∃ s₂ o, Steps tb e below (T.setTop f) s₂ ∧ P s₂ o
def own_P (below : List Frame) (s : State) (Q : Option Value → Heap → List Loc → Prop) (ck kk : Nat) : State → Outcome → Prop := fun s₂ o => s₂.status = .running ∧ Ended s₂ below o ∧ ∃ v L, o = .returned v ∧ Q v s₂.heap L ∧ FrameEnd s o s₂ L ck kk
theorem own_go {tb : Tables} {e : Env} {below : List Frame} {T T' : State} {f f' : JFrame} {P : State → Outcome → Prop} (h : ∀ t, Steps tb e below (T'.setTop f') t → Steps tb e below (T.setTop f) t) (g : own_G tb e below T' f' P) : own_G tb e below T f P := by
  obtain ⟨a, o, h1, h2⟩ := g; exact ⟨a, o, h a h1, h2⟩
theorem own_end (X : Stand p l e R s m args below meth c T locs cells slots) (hlocks : meth.locks = false) {v : Option Value} (hv : meth.sig.returnType = none → v = none) {f : JFrame}
    (hret : ∀ fs, (∀ (f : JFrame) (acts : List Action), f.method = m → f.locked = none → f.entered = [] → (doReturn e (T.setTop f) acts v).1 = T.setFrames fs) → Steps p.tables e below (T.setTop f) (T.setFrames fs))
    {Q : Option Value → Heap → List Loc → Prop} {h : Heap} (eT : T.heap = h) (hQ : Q v h locs) {ck kk : Nat} (hc : cells ≤ ck) (hk : slots ≤ kk) : own_G p.tables e below T f (own_P below s Q ck kk) := by
  obtain ⟨fs, hr, hrun, hended, hW, hsame⟩ := X.leave (v := v) hv hlocks
  subst eT
  exact ⟨_, _, hret fs hr, hrun, hended, _, _, rfl, hQ, ⟨_, rfl⟩, hW, hsame.mono hc hk⟩
theorem own_top {tb : Tables} {e : Env} {below : List Frame} {T : State} {f f' : JFrame} {s : State} {Q : Option Value → Heap → List Loc → Prop} {ck kk : Nat} (ef : f = f') (g : own_G tb e below T f' (own_P below s Q ck kk)) :
    ∃ s₂ o, Steps tb e below (T.setTop f) s₂ ∧ s₂.status = .running ∧ Ended s₂ below o ∧ ∃ v L, o = .returned v ∧ Q v s₂.heap L ∧ FrameEnd s o s₂ L ck kk := by
  subst ef; exact g
theorem own_sk {Z : State} {h h' : Heap} {C n d : String} {v : Value} {ws : List Addr} (F : Sta Z h C n d v) (K : Keep h h' ws) (q : ∀ x ∈ ws, ∀ c : Cell, h[x]? = some c → c.vm.isStatics = false) : Sta Z h' C n d v := by
  obtain ⟨cf, i, k, f, st, cell, h1, h2, h3, h4, h5, h6, h7⟩ := F
  exact ⟨cf, i, k, f, st, cell, h1, h2, h3, h4, K.2.1 st cell h5 (fun hm => by have := q st hm cell h5; rw [h6] at this; cases this), h6, h7⟩
theorem own_ak {Z : State} {h h' : Heap} {a : Addr} {c : Cell} {ty : FieldType} (A : Arr Z h a c ty) (K : Keep h h' []) : Arr Z h' a c ty := ⟨K.2.1 a c A.1 List.not_mem_nil, A.2⟩
theorem own_akn {Z : State} {h h' : Heap} {a : Addr} {c : Cell} {ty : FieldType} {ws : List Addr} (A : Arr Z h a c ty) (K : Keep h h' ws) (q : a ∉ ws) : Arr Z h' a c ty := ⟨K.2.1 a c A.1 q, A.2⟩
theorem own_plv {Z : State} {h : Heap} {a : Addr} {k : ClassId} {ty : FieldType} {n : Int32} {vs : List Value} {d : Value} (A : Arv Z h a k ty n vs d) : ∀ c : Cell, h[a]? = some c → c.vm.isStatics = false := fun c hc => by
  obtain ⟨cl, A, -⟩ := A; have := A.1; rw [this] at hc; cases hc; exact A.plain
theorem own_pl {Z : State} {h : Heap} {a : Addr} {C : String} (E : Exa Z h a C) : ∀ c : Cell, h[a]? = some c → c.vm.isStatics = false := fun c hc => by
  obtain ⟨cell, k, h1, _, _, h4, _⟩ := E; rw [h1] at hc; cases hc; exact h4
theorem own_pl1 {h : Heap} {a : Addr} (q : ∀ c : Cell, h[a]? = some c → c.vm.isStatics = false) : ∀ x ∈ [a], ∀ c : Cell, h[x]? = some c → c.vm.isStatics = false := fun x hx => by
  cases List.mem_singleton.mp hx; exact q
end New
end Jvm.RoadKit
namespace Jvm.Pilot.@@N@@
open Jvm Jvm.ClassFile Sem Op Lib Jvm.Free Jvm.Stand Jvm.LawKit Jvm.RoadKit Bundle Jvm.Pilot.@@N@@.Jvm.D
theorem own_pd0 : parseMethodDescriptor "(C)Z" = some ⟨[.char], some .boolean⟩ := by decide +kernel
theorem own_pd1 : parseMethodDescriptor "([CII)I" = some ⟨[(.array .char), .int, .int], some .int⟩ := by decide +kernel
theorem own_pd2 : parseMethodDescriptor "(I)Z" = some ⟨[.int], some .boolean⟩ := by decide +kernel
theorem own_pd3 : parseMethodDescriptor "(I)I" = some ⟨[.int], some .int⟩ := by decide +kernel
theorem own_pd4 : parseMethodDescriptor "()V" = some ⟨[], none⟩ := by decide +kernel
theorem own_pd5 : parseMethodDescriptor "([CII)V" = some ⟨[(.array .char), .int, .int], none⟩ := by decide +kernel
theorem own_pd6 : parseMethodDescriptor "()I" = some ⟨[], some .int⟩ := by decide +kernel
theorem own_pd7 : parseMethodDescriptor "(III)I" = some ⟨[.int, .int, .int], some .int⟩ := by decide +kernel
theorem own_pn0 : plainName "com/example/einzug/einzug/rules/XmlCharacters" = true := by first | (simp [plainName, overriddenIn]; done) | decide +kernel
theorem own_pn1 : plainName "com/example/einzug/einzug/core/TextCharactersClosePinLaw" = true := by first | (simp [plainName, overriddenIn]; done) | decide +kernel
theorem own_pn2 : plainName "com/example/einzug/einzug/rules/PermittedCharacters" = true := by first | (simp [plainName, overriddenIn]; done) | decide +kernel
theorem own_pn3 : plainName "java/lang/Character" = true := by first | (simp [plainName, overriddenIn]; done) | decide +kernel
theorem own_pn4 : plainName "com/example/einzug/einzug/core/TextCharacters" = true := by first | (simp [plainName, overriddenIn]; done) | decide +kernel

theorem own_len {args : Array Value} {s : State} {t : Term} {a : Addr} {cl : Cell} {n : Int32} (ht : t.eval args s none [] s = some (.ref a)) (ha : s.arrayAt? a = some cl) (h : (Jvm.Cond.eq (.length t) (.int n)).value args s none s [] = some true) : cl.slots.size < 2 ^ 31 ∧ cl.slots.size.toInt32 = n := by
  have e2 : (Term.int n).eval args s none [] s = some (.int n) := rfl
  by_cases q : cl.slots.size < 2 ^ 31
  · have e1 := len_f (args := args) (first := s) (o := none) (idx := []) ht ha q
    refine ⟨q, ?_⟩
    simpa [Jvm.Cond.value, e1, e2] using h
  · exfalso
    have e1 : (Term.length t).eval args s none [] s = none := by simp [Term.eval, ht, ha, q]
    simp [Jvm.Cond.value, e1] at h
theorem own_eqi {args : Array Value} {s : State} {idx : List Nat} {t : Term} {v : Int32} {x : Option Value} (e1 : t.eval args s none idx s = x) (h : (Jvm.Cond.eq t (.int v)).value args s none s idx = some true) : x = some (.int v) := by
  have e2 : (Term.int v).eval args s none idx s = some (.int v) := rfl
  simp only [Jvm.Cond.value, e1, e2] at h
  split at h <;> simp_all
theorem own_elem {args : Array Value} {s : State} {t : Term} {a : Addr} {cl : Cell} {j v : Int32} (ht : t.eval args s none [] s = some (.ref a)) (ha : s.arrayAt? a = some cl) (hj : ¬ j < 0) (h : (Jvm.Cond.eq (.elem t (.int j)) (.int v)).value args s none s [] = some true) : cl.slots[j.toNatClampNeg]? = some (.int v) :=
  own_eqi (elem_f (a := Term.int j) ht rfl ha hj) h
theorem own_back {k : Nat} (hk : k < 2 ^ 31) : k.toInt32.toNatClampNeg = k ∧ ¬ k.toInt32 < 0 := by
  have q := len_toInt hk
  refine ⟨by simp only [Int32.toNatClampNeg, q]; omega, ?_⟩
  rw [Int32.lt_iff_toInt_lt, q]; have : (0 : Int32).toInt = 0 := rfl
  omega
theorem own_elemI {args : Array Value} {s : State} {t : Term} {a : Addr} {cl : Cell} {v : Int32} {k : Nat} (ht : t.eval args s none [k] s = some (.ref a)) (ha : s.arrayAt? a = some cl) (hk : k < 2 ^ 31) (h : (Jvm.Cond.eq (.elem t (.index 0)) (.int v)).value args s none s [k] = some true) : cl.slots[k]? = some (.int v) := by
  have q := own_back hk
  have r := own_eqi (elem_f (a := Term.index 0) ht (rfl : (Term.index 0).eval args s none [k] s = some (.int k.toInt32)) ha q.2) h
  rwa [q.1] at r
theorem own_all3 {args : Array Value} {s : State} {t : Term} {a : Addr} {cl : Cell} {lo hi v : Int32} {k : Nat} (ht : ∀ idx, t.eval args s none idx s = some (.ref a)) (ha : s.arrayAt? a = some cl) (hs : cl.slots.size < 2 ^ 31)
    (h : (Jvm.Cond.all t (.or (.lt (.index 0) (.int lo)) (.or (.le (.int hi) (.index 0)) (.eq (.elem t (.index 0)) (.int v))))).value args s none s [] = some true)
    (hk : k < cl.slots.size) (h1 : ¬ k.toInt32 < lo) (h2 : ¬ hi ≤ k.toInt32) : cl.slots[k]? = some (.int v) := by
  have q := Cond.all_elim (ht []) ha h k hk
  have i0 : (Term.index 0).eval args s none [k] s = some (.int k.toInt32) := rfl
  have l0 : (Term.int lo).eval args s none [k] s = some (.int lo) := rfl
  have l1 : (Term.int hi).eval args s none [k] s = some (.int hi) := rfl
  rw [Cond.or_of_right (nay (Cond.lt_ints i0 l0) h1), Cond.or_of_right (nay (Cond.le_ints l1 i0) h2)] at q
  exact own_elemI (ht [k]) ha (by omega) q
theorem own_all2 {args : Array Value} {s : State} {t : Term} {a : Addr} {cl : Cell} {hi v : Int32} {k : Nat} (ht : ∀ idx, t.eval args s none idx s = some (.ref a)) (ha : s.arrayAt? a = some cl) (hs : cl.slots.size < 2 ^ 31)
    (h : (Jvm.Cond.all t (.or (.le (.int hi) (.index 0)) (.eq (.elem t (.index 0)) (.int v)))).value args s none s [] = some true)
    (hk : k < cl.slots.size) (h2 : ¬ hi ≤ k.toInt32) : cl.slots[k]? = some (.int v) := by
  have q := Cond.all_elim (ht []) ha h k hk
  have i0 : (Term.index 0).eval args s none [k] s = some (.int k.toInt32) := rfl
  have l1 : (Term.int hi).eval args s none [k] s = some (.int hi) := rfl
  rw [Cond.or_of_right (nay (Cond.le_ints l1 i0) h2)] at q
  exact own_elemI (ht [k]) ha (by omega) q
theorem own_nlt {k : Nat} {n : Int32} (hk : k < 2 ^ 31) (h : n.toInt ≤ (k : Int)) : ¬ k.toInt32 < n := by
  rw [Int32.lt_iff_toInt_lt, len_toInt hk]; omega
theorem own_nle {k : Nat} {n : Int32} (hk : k < 2 ^ 31) (h : (k : Int) < n.toInt) : ¬ n ≤ k.toInt32 := by
  rw [Int32.le_iff_toInt_le, len_toInt hk]; omega

def own_perm (k : Nat) : Int32 := if k < 32 then 0 else if k < 94 then 1 else if k < 95 then 0 else if k < 124 then 1 else if k < 125 then 0 else if k < 126 then 1 else if k < 127 then 1 else if k < 163 then 0 else if k < 164 then 1 else if k < 180 then 0 else if k < 181 then 1 else if k < 192 then 0 else if k < 193 then 1 else if k < 194 then 1 else if k < 195 then 1 else if k < 196 then 0 else if k < 197 then 1 else if k < 198 then 0 else if k < 199 then 0 else if k < 208 then 1 else if k < 209 then 0 else if k < 213 then 1 else if k < 214 then 0 else if k < 215 then 1 else if k < 216 then 0 else if k < 217 then 0 else if k < 221 then 1 else if k < 222 then 0 else if k < 223 then 0 else if k < 227 then 1 else if k < 228 then 0 else if k < 229 then 1 else if k < 230 then 0 else if k < 231 then 0 else if k < 240 then 1 else if k < 241 then 0 else if k < 245 then 1 else if k < 246 then 0 else if k < 247 then 1 else if k < 248 then 1 else if k < 249 then 0 else if k < 254 then 1 else if k < 255 then 0 else 0
set_option maxRecDepth 65536 in
set_option maxHeartbeats 40000000 in
theorem own_narrow {args : Array Value} {s : State} (hw : ∀ d ∈ tables_1, d.before args s = true) (hn : narrow_1.value args s none s [] = some true) : ∃ (aP : Addr) (cl : Cell), Sta s s.heap "com/example/einzug/einzug/rules/PermittedCharacters" "PERMITTED" "[Z" (.ref aP) ∧ Arr s s.heap aP cl .boolean ∧ cl.slots.size = 256 ∧ ∀ k, k < 256 → cl.slots[k]? = some (.int (own_perm k)) := by
  obtain ⟨x0, hn⟩ := and_e hn
  obtain ⟨x1, hn⟩ := and_e hn
  obtain ⟨x2, hn⟩ := and_e hn
  obtain ⟨x3, hn⟩ := and_e hn
  obtain ⟨x4, hn⟩ := and_e hn
  obtain ⟨x5, hn⟩ := and_e hn
  obtain ⟨x6, hn⟩ := and_e hn
  obtain ⟨x7, hn⟩ := and_e hn
  obtain ⟨x8, hn⟩ := and_e hn
  obtain ⟨x9, hn⟩ := and_e hn
  obtain ⟨x10, hn⟩ := and_e hn
  obtain ⟨x11, hn⟩ := and_e hn
  obtain ⟨x12, hn⟩ := and_e hn
  obtain ⟨x13, hn⟩ := and_e hn
  obtain ⟨x14, hn⟩ := and_e hn
  obtain ⟨x15, hn⟩ := and_e hn
  obtain ⟨x16, hn⟩ := and_e hn
  obtain ⟨x17, hn⟩ := and_e hn
  obtain ⟨x18, hn⟩ := and_e hn
  obtain ⟨x19, hn⟩ := and_e hn
  obtain ⟨x20, hn⟩ := and_e hn
  obtain ⟨x21, hn⟩ := and_e hn
  obtain ⟨x22, hn⟩ := and_e hn
  obtain ⟨x23, hn⟩ := and_e hn
  obtain ⟨x24, hn⟩ := and_e hn
  obtain ⟨x25, hn⟩ := and_e hn
  obtain ⟨x26, hn⟩ := and_e hn
  obtain ⟨x27, hn⟩ := and_e hn
  obtain ⟨x28, hn⟩ := and_e hn
  obtain ⟨x29, hn⟩ := and_e hn
  obtain ⟨x30, hn⟩ := and_e hn
  obtain ⟨x31, hn⟩ := and_e hn
  obtain ⟨x32, hn⟩ := and_e hn
  obtain ⟨x33, hn⟩ := and_e hn
  obtain ⟨x34, hn⟩ := and_e hn
  obtain ⟨x35, hn⟩ := and_e hn
  obtain ⟨x36, hn⟩ := and_e hn
  obtain ⟨x37, hn⟩ := and_e hn
  obtain ⟨x38, hn⟩ := and_e hn
  obtain ⟨x39, hn⟩ := and_e hn
  obtain ⟨x40, hn⟩ := and_e hn
  obtain ⟨x41, hn⟩ := and_e hn
  obtain ⟨x42, hn⟩ := and_e hn
  obtain ⟨x43, hn⟩ := and_e hn
  obtain ⟨x44, hn⟩ := and_e hn
  obtain ⟨aP, ev⟩ := arr_v x0
  have hev : ∀ idx, (Term.static "com/example/einzug/einzug/rules/PermittedCharacters" "PERMITTED" "[Z").eval args s none idx s = some (.ref aP) := fun _ => ev
  obtain ⟨cl, Ar⟩ := Arr.start ev x0
  have ha : s.arrayAt? aP = some cl := Ar.fin (Vm.Alike.refl _)
  obtain ⟨hs, hl⟩ := own_len ev ha x1
  have hsz : cl.slots.size = 256 := by have := len_toInt hs; rw [hl] at this; have h2 : (256 : Int32).toInt = 256 := rfl; omega
  have F0 : ∀ k, 0 ≤ k → k < 32 → cl.slots[k]? = some (.int 0) := fun k h1 h2 => own_all2 hev ha hs x2 (by omega) (own_nle (by omega) (by show (k : Int) < 32; omega))
  have F1 : ∀ k, 32 ≤ k → k < 94 → cl.slots[k]? = some (.int 1) := fun k h1 h2 => own_all3 hev ha hs x3 (by omega) (own_nlt (by omega) (by show (32 : Int) ≤ k; omega)) (own_nle (by omega) (by show (k : Int) < 94; omega))
  have F2 : ∀ k, 94 ≤ k → k < 95 → cl.slots[k]? = some (.int 0) := fun k h1 h2 => by
    obtain rfl : k = 94 := by omega
    exact own_elem (j := 94) ev ha (by decide) x4
  have F3 : ∀ k, 95 ≤ k → k < 124 → cl.slots[k]? = some (.int 1) := fun k h1 h2 => own_all3 hev ha hs x5 (by omega) (own_nlt (by omega) (by show (95 : Int) ≤ k; omega)) (own_nle (by omega) (by show (k : Int) < 124; omega))
  have F4 : ∀ k, 124 ≤ k → k < 125 → cl.slots[k]? = some (.int 0) := fun k h1 h2 => by
    obtain rfl : k = 124 := by omega
    exact own_elem (j := 124) ev ha (by decide) x6
  have F5 : ∀ k, 125 ≤ k → k < 126 → cl.slots[k]? = some (.int 1) := fun k h1 h2 => by
    obtain rfl : k = 125 := by omega
    exact own_elem (j := 125) ev ha (by decide) x7
  have F6 : ∀ k, 126 ≤ k → k < 127 → cl.slots[k]? = some (.int 1) := fun k h1 h2 => by
    obtain rfl : k = 126 := by omega
    exact own_elem (j := 126) ev ha (by decide) x8
  have F7 : ∀ k, 127 ≤ k → k < 163 → cl.slots[k]? = some (.int 0) := fun k h1 h2 => own_all3 hev ha hs x9 (by omega) (own_nlt (by omega) (by show (127 : Int) ≤ k; omega)) (own_nle (by omega) (by show (k : Int) < 163; omega))
  have F8 : ∀ k, 163 ≤ k → k < 164 → cl.slots[k]? = some (.int 1) := fun k h1 h2 => by
    obtain rfl : k = 163 := by omega
    exact own_elem (j := 163) ev ha (by decide) x10
  have F9 : ∀ k, 164 ≤ k → k < 180 → cl.slots[k]? = some (.int 0) := fun k h1 h2 => own_all3 hev ha hs x11 (by omega) (own_nlt (by omega) (by show (164 : Int) ≤ k; omega)) (own_nle (by omega) (by show (k : Int) < 180; omega))
  have F10 : ∀ k, 180 ≤ k → k < 181 → cl.slots[k]? = some (.int 1) := fun k h1 h2 => by
    obtain rfl : k = 180 := by omega
    exact own_elem (j := 180) ev ha (by decide) x12
  have F11 : ∀ k, 181 ≤ k → k < 192 → cl.slots[k]? = some (.int 0) := fun k h1 h2 => own_all3 hev ha hs x13 (by omega) (own_nlt (by omega) (by show (181 : Int) ≤ k; omega)) (own_nle (by omega) (by show (k : Int) < 192; omega))
  have F12 : ∀ k, 192 ≤ k → k < 193 → cl.slots[k]? = some (.int 1) := fun k h1 h2 => by
    obtain rfl : k = 192 := by omega
    exact own_elem (j := 192) ev ha (by decide) x14
  have F13 : ∀ k, 193 ≤ k → k < 194 → cl.slots[k]? = some (.int 1) := fun k h1 h2 => by
    obtain rfl : k = 193 := by omega
    exact own_elem (j := 193) ev ha (by decide) x15
  have F14 : ∀ k, 194 ≤ k → k < 195 → cl.slots[k]? = some (.int 1) := fun k h1 h2 => by
    obtain rfl : k = 194 := by omega
    exact own_elem (j := 194) ev ha (by decide) x16
  have F15 : ∀ k, 195 ≤ k → k < 196 → cl.slots[k]? = some (.int 0) := fun k h1 h2 => by
    obtain rfl : k = 195 := by omega
    exact own_elem (j := 195) ev ha (by decide) x17
  have F16 : ∀ k, 196 ≤ k → k < 197 → cl.slots[k]? = some (.int 1) := fun k h1 h2 => by
    obtain rfl : k = 196 := by omega
    exact own_elem (j := 196) ev ha (by decide) x18
  have F17 : ∀ k, 197 ≤ k → k < 198 → cl.slots[k]? = some (.int 0) := fun k h1 h2 => by
    obtain rfl : k = 197 := by omega
    exact own_elem (j := 197) ev ha (by decide) x19
  have F18 : ∀ k, 198 ≤ k → k < 199 → cl.slots[k]? = some (.int 0) := fun k h1 h2 => by
    obtain rfl : k = 198 := by omega
    exact own_elem (j := 198) ev ha (by decide) x20
  have F19 : ∀ k, 199 ≤ k → k < 208 → cl.slots[k]? = some (.int 1) := fun k h1 h2 => own_all3 hev ha hs x21 (by omega) (own_nlt (by omega) (by show (199 : Int) ≤ k; omega)) (own_nle (by omega) (by show (k : Int) < 208; omega))
  have F20 : ∀ k, 208 ≤ k → k < 209 → cl.slots[k]? = some (.int 0) := fun k h1 h2 => by
    obtain rfl : k = 208 := by omega
    exact own_elem (j := 208) ev ha (by decide) x22
  have F21 : ∀ k, 209 ≤ k → k < 213 → cl.slots[k]? = some (.int 1) := fun k h1 h2 => own_all3 hev ha hs x23 (by omega) (own_nlt (by omega) (by show (209 : Int) ≤ k; omega)) (own_nle (by omega) (by show (k : Int) < 213; omega))
  have F22 : ∀ k, 213 ≤ k → k < 214 → cl.slots[k]? = some (.int 0) := fun k h1 h2 => by
    obtain rfl : k = 213 := by omega
    exact own_elem (j := 213) ev ha (by decide) x24
  have F23 : ∀ k, 214 ≤ k → k < 215 → cl.slots[k]? = some (.int 1) := fun k h1 h2 => by
    obtain rfl : k = 214 := by omega
    exact own_elem (j := 214) ev ha (by decide) x25
  have F24 : ∀ k, 215 ≤ k → k < 216 → cl.slots[k]? = some (.int 0) := fun k h1 h2 => by
    obtain rfl : k = 215 := by omega
    exact own_elem (j := 215) ev ha (by decide) x26
  have F25 : ∀ k, 216 ≤ k → k < 217 → cl.slots[k]? = some (.int 0) := fun k h1 h2 => by
    obtain rfl : k = 216 := by omega
    exact own_elem (j := 216) ev ha (by decide) x27
  have F26 : ∀ k, 217 ≤ k → k < 221 → cl.slots[k]? = some (.int 1) := fun k h1 h2 => own_all3 hev ha hs x28 (by omega) (own_nlt (by omega) (by show (217 : Int) ≤ k; omega)) (own_nle (by omega) (by show (k : Int) < 221; omega))
  have F27 : ∀ k, 221 ≤ k → k < 222 → cl.slots[k]? = some (.int 0) := fun k h1 h2 => by
    obtain rfl : k = 221 := by omega
    exact own_elem (j := 221) ev ha (by decide) x29
  have F28 : ∀ k, 222 ≤ k → k < 223 → cl.slots[k]? = some (.int 0) := fun k h1 h2 => by
    obtain rfl : k = 222 := by omega
    exact own_elem (j := 222) ev ha (by decide) x30
  have F29 : ∀ k, 223 ≤ k → k < 227 → cl.slots[k]? = some (.int 1) := fun k h1 h2 => own_all3 hev ha hs x31 (by omega) (own_nlt (by omega) (by show (223 : Int) ≤ k; omega)) (own_nle (by omega) (by show (k : Int) < 227; omega))
  have F30 : ∀ k, 227 ≤ k → k < 228 → cl.slots[k]? = some (.int 0) := fun k h1 h2 => by
    obtain rfl : k = 227 := by omega
    exact own_elem (j := 227) ev ha (by decide) x32
  have F31 : ∀ k, 228 ≤ k → k < 229 → cl.slots[k]? = some (.int 1) := fun k h1 h2 => by
    obtain rfl : k = 228 := by omega
    exact own_elem (j := 228) ev ha (by decide) x33
  have F32 : ∀ k, 229 ≤ k → k < 230 → cl.slots[k]? = some (.int 0) := fun k h1 h2 => by
    obtain rfl : k = 229 := by omega
    exact own_elem (j := 229) ev ha (by decide) x34
  have F33 : ∀ k, 230 ≤ k → k < 231 → cl.slots[k]? = some (.int 0) := fun k h1 h2 => by
    obtain rfl : k = 230 := by omega
    exact own_elem (j := 230) ev ha (by decide) x35
  have F34 : ∀ k, 231 ≤ k → k < 240 → cl.slots[k]? = some (.int 1) := fun k h1 h2 => own_all3 hev ha hs x36 (by omega) (own_nlt (by omega) (by show (231 : Int) ≤ k; omega)) (own_nle (by omega) (by show (k : Int) < 240; omega))
  have F35 : ∀ k, 240 ≤ k → k < 241 → cl.slots[k]? = some (.int 0) := fun k h1 h2 => by
    obtain rfl : k = 240 := by omega
    exact own_elem (j := 240) ev ha (by decide) x37
  have F36 : ∀ k, 241 ≤ k → k < 245 → cl.slots[k]? = some (.int 1) := fun k h1 h2 => own_all3 hev ha hs x38 (by omega) (own_nlt (by omega) (by show (241 : Int) ≤ k; omega)) (own_nle (by omega) (by show (k : Int) < 245; omega))
  have F37 : ∀ k, 245 ≤ k → k < 246 → cl.slots[k]? = some (.int 0) := fun k h1 h2 => by
    obtain rfl : k = 245 := by omega
    exact own_elem (j := 245) ev ha (by decide) x39
  have F38 : ∀ k, 246 ≤ k → k < 247 → cl.slots[k]? = some (.int 1) := fun k h1 h2 => by
    obtain rfl : k = 246 := by omega
    exact own_elem (j := 246) ev ha (by decide) x40
  have F39 : ∀ k, 247 ≤ k → k < 248 → cl.slots[k]? = some (.int 1) := fun k h1 h2 => by
    obtain rfl : k = 247 := by omega
    exact own_elem (j := 247) ev ha (by decide) x41
  have F40 : ∀ k, 248 ≤ k → k < 249 → cl.slots[k]? = some (.int 0) := fun k h1 h2 => by
    obtain rfl : k = 248 := by omega
    exact own_elem (j := 248) ev ha (by decide) x42
  have F41 : ∀ k, 249 ≤ k → k < 254 → cl.slots[k]? = some (.int 1) := fun k h1 h2 => own_all3 hev ha hs x43 (by omega) (own_nlt (by omega) (by show (249 : Int) ≤ k; omega)) (own_nle (by omega) (by show (k : Int) < 254; omega))
  have F42 : ∀ k, 254 ≤ k → k < 255 → cl.slots[k]? = some (.int 0) := fun k h1 h2 => by
    obtain rfl : k = 254 := by omega
    exact own_elem (j := 254) ev ha (by decide) x44
  have F43 : ∀ k, 255 ≤ k → k < 256 → cl.slots[k]? = some (.int 0) := fun k h1 h2 => by
    obtain rfl : k = 255 := by omega
    exact own_elem (j := 255) ev ha (by decide) hn
  refine ⟨aP, cl, Sta.start ev (Or.inr ⟨(hw _ (List.mem_of_getElem? (i := 51) rfl)), (hw _ (List.mem_of_getElem? (i := 54) rfl))⟩), Ar, hsz, fun k hk => ?_⟩
  unfold own_perm
  by_cases c0 : k < 32
  · rw [if_pos c0]; exact F0 k (by omega) c0
  rw [if_neg c0]
  by_cases c1 : k < 94
  · rw [if_pos c1]; exact F1 k (by omega) c1
  rw [if_neg c1]
  by_cases c2 : k < 95
  · rw [if_pos c2]; exact F2 k (by omega) c2
  rw [if_neg c2]
  by_cases c3 : k < 124
  · rw [if_pos c3]; exact F3 k (by omega) c3
  rw [if_neg c3]
  by_cases c4 : k < 125
  · rw [if_pos c4]; exact F4 k (by omega) c4
  rw [if_neg c4]
  by_cases c5 : k < 126
  · rw [if_pos c5]; exact F5 k (by omega) c5
  rw [if_neg c5]
  by_cases c6 : k < 127
  · rw [if_pos c6]; exact F6 k (by omega) c6
  rw [if_neg c6]
  by_cases c7 : k < 163
  · rw [if_pos c7]; exact F7 k (by omega) c7
  rw [if_neg c7]
  by_cases c8 : k < 164
  · rw [if_pos c8]; exact F8 k (by omega) c8
  rw [if_neg c8]
  by_cases c9 : k < 180
  · rw [if_pos c9]; exact F9 k (by omega) c9
  rw [if_neg c9]
  by_cases c10 : k < 181
  · rw [if_pos c10]; exact F10 k (by omega) c10
  rw [if_neg c10]
  by_cases c11 : k < 192
  · rw [if_pos c11]; exact F11 k (by omega) c11
  rw [if_neg c11]
  by_cases c12 : k < 193
  · rw [if_pos c12]; exact F12 k (by omega) c12
  rw [if_neg c12]
  by_cases c13 : k < 194
  · rw [if_pos c13]; exact F13 k (by omega) c13
  rw [if_neg c13]
  by_cases c14 : k < 195
  · rw [if_pos c14]; exact F14 k (by omega) c14
  rw [if_neg c14]
  by_cases c15 : k < 196
  · rw [if_pos c15]; exact F15 k (by omega) c15
  rw [if_neg c15]
  by_cases c16 : k < 197
  · rw [if_pos c16]; exact F16 k (by omega) c16
  rw [if_neg c16]
  by_cases c17 : k < 198
  · rw [if_pos c17]; exact F17 k (by omega) c17
  rw [if_neg c17]
  by_cases c18 : k < 199
  · rw [if_pos c18]; exact F18 k (by omega) c18
  rw [if_neg c18]
  by_cases c19 : k < 208
  · rw [if_pos c19]; exact F19 k (by omega) c19
  rw [if_neg c19]
  by_cases c20 : k < 209
  · rw [if_pos c20]; exact F20 k (by omega) c20
  rw [if_neg c20]
  by_cases c21 : k < 213
  · rw [if_pos c21]; exact F21 k (by omega) c21
  rw [if_neg c21]
  by_cases c22 : k < 214
  · rw [if_pos c22]; exact F22 k (by omega) c22
  rw [if_neg c22]
  by_cases c23 : k < 215
  · rw [if_pos c23]; exact F23 k (by omega) c23
  rw [if_neg c23]
  by_cases c24 : k < 216
  · rw [if_pos c24]; exact F24 k (by omega) c24
  rw [if_neg c24]
  by_cases c25 : k < 217
  · rw [if_pos c25]; exact F25 k (by omega) c25
  rw [if_neg c25]
  by_cases c26 : k < 221
  · rw [if_pos c26]; exact F26 k (by omega) c26
  rw [if_neg c26]
  by_cases c27 : k < 222
  · rw [if_pos c27]; exact F27 k (by omega) c27
  rw [if_neg c27]
  by_cases c28 : k < 223
  · rw [if_pos c28]; exact F28 k (by omega) c28
  rw [if_neg c28]
  by_cases c29 : k < 227
  · rw [if_pos c29]; exact F29 k (by omega) c29
  rw [if_neg c29]
  by_cases c30 : k < 228
  · rw [if_pos c30]; exact F30 k (by omega) c30
  rw [if_neg c30]
  by_cases c31 : k < 229
  · rw [if_pos c31]; exact F31 k (by omega) c31
  rw [if_neg c31]
  by_cases c32 : k < 230
  · rw [if_pos c32]; exact F32 k (by omega) c32
  rw [if_neg c32]
  by_cases c33 : k < 231
  · rw [if_pos c33]; exact F33 k (by omega) c33
  rw [if_neg c33]
  by_cases c34 : k < 240
  · rw [if_pos c34]; exact F34 k (by omega) c34
  rw [if_neg c34]
  by_cases c35 : k < 241
  · rw [if_pos c35]; exact F35 k (by omega) c35
  rw [if_neg c35]
  by_cases c36 : k < 245
  · rw [if_pos c36]; exact F36 k (by omega) c36
  rw [if_neg c36]
  by_cases c37 : k < 246
  · rw [if_pos c37]; exact F37 k (by omega) c37
  rw [if_neg c37]
  by_cases c38 : k < 247
  · rw [if_pos c38]; exact F38 k (by omega) c38
  rw [if_neg c38]
  by_cases c39 : k < 248
  · rw [if_pos c39]; exact F39 k (by omega) c39
  rw [if_neg c39]
  by_cases c40 : k < 249
  · rw [if_pos c40]; exact F40 k (by omega) c40
  rw [if_neg c40]
  by_cases c41 : k < 254
  · rw [if_pos c41]; exact F41 k (by omega) c41
  rw [if_neg c41]
  by_cases c42 : k < 255
  · rw [if_pos c42]; exact F42 k (by omega) c42
  rw [if_neg c42]
  exact F43 k (by omega) hk

def own_isp (c : Int32) : Int32 := if c < 0 then 0 else if c < 256 then (if own_perm c.toNatClampNeg = 0 then 0 else 1) else 0
theorem own_inb {c : Int32} (h0 : ¬ c < 0) (h1 : c < 256) : c.toNatClampNeg < 256 := by
  rw [Int32.lt_iff_toInt_lt] at h0 h1; have a : (0 : Int32).toInt = 0 := rfl
  have b : (256 : Int32).toInt = 256 := rfl
  simp only [Int32.toNatClampNeg]; omega


def own_sp (c : Int32) : Int32 := if c = 32 then 1 else if c = 9 then 1 else if c = 10 then 1 else if c = 13 then 1 else 0
def own_step (c st pd : Int32) : Int32 × Int32 × Int32 :=
  if own_sp c = 0 then (if pd = -1 then (if own_isp c = 0 then (c, 1, pd) else (-1, 1, pd)) else (pd, st, pd))
  else if st = 0 then (-1, st, pd) else if c = 32 then (-1, st, pd) else if pd = -1 then (-1, st, c) else (-1, st, pd)
def own_run : List Int32 → Int32 × Int32 × Int32 → Int32 × Int32 × Int32
  | [], s => s
  | c :: cs, (r, st, pd) => if r = -1 then own_run cs (own_step c st pd) else (r, st, pd)
theorem own_run_out (c : Int32) (cs : List Int32) {r st pd : Int32} (h : ¬ r = -1) : own_run (c :: cs) (r, st, pd) = (r, st, pd) := by simp only [own_run, h, if_false]
theorem own_run_in (c : Int32) (cs : List Int32) (st pd : Int32) : own_run (c :: cs) (-1, st, pd) = own_run cs (own_step c st pd) := by simp only [own_run, if_true]
theorem own_run_app (as bs : List Int32) (s : Int32 × Int32 × Int32) : own_run (as ++ bs) s = own_run bs (own_run as s) := by
  induction as generalizing s with
  | nil => rfl
  | cons a as ih =>
    obtain ⟨r, st, pd⟩ := s
    by_cases h : r = -1
    · subst h; rw [List.cons_append, own_run_in, own_run_in, ih]
    · rw [List.cons_append, own_run_out _ _ h, own_run_out _ _ h]
      cases bs with
      | nil => rfl
      | cons b bs => rw [own_run_out _ _ h]
theorem own_step_st {c st pd : Int32} (h : st = 0 ∨ st = 1) : (own_step c st pd).2.1 = 0 ∨ (own_step c st pd).2.1 = 1 := by
  unfold own_step; repeat' split
  all_goals first | exact h | exact Or.inr rfl
theorem own_run_st (cs : List Int32) {r st pd : Int32} (h : st = 0 ∨ st = 1) : (own_run cs (r, st, pd)).2.1 = 0 ∨ (own_run cs (r, st, pd)).2.1 = 1 := by
  induction cs generalizing r st pd with
  | nil => exact h
  | cons c cs ih =>
    by_cases q : r = -1
    · subst q; rw [own_run_in]; exact ih (own_step_st h)
    · rw [own_run_out _ _ q]; exact h
def own_r3c (pd c : Int32) : Int32 := if own_sp c = 0 then (if pd = -1 then (if own_isp c = 0 then c else -1) else pd) else -1
def own_r3b (st b c : Int32) : Int32 := if own_sp b = 0 then (if own_isp b = 0 then b else own_r3c (-1) c) else if st = 0 then own_r3c (-1) c else if b = 32 then own_r3c (-1) c else own_r3c b c
def own_ref3 (a b c : Int32) : Int32 := if own_sp a = 0 then (if own_isp a = 0 then a else own_r3b 1 b c) else own_r3b 0 b c
theorem own_one (pd st c : Int32) : (own_run [c] (-1, st, pd)).1 = own_r3c pd c := by
  rw [own_run_in]; unfold own_run own_step own_r3c
  repeat' split
  all_goals rfl
theorem own_two {b : Int32} (hb : ¬ b = -1) (st c : Int32) (hst : st = 0 ∨ st = 1) : (own_run [b, c] (-1, st, -1)).1 = own_r3b st b c := by
  rw [own_run_in]; unfold own_step own_r3b
  by_cases h1 : own_sp b = 0
  · rw [if_pos h1, if_pos h1, if_pos rfl]
    by_cases h2 : own_isp b = 0
    · rw [if_pos h2, if_pos h2, own_run_out _ _ hb]
    · rw [if_neg h2, if_neg h2, own_one]
  · rw [if_neg h1, if_neg h1]
    by_cases h2 : st = 0
    · rw [if_pos h2, if_pos h2, own_one]
    · rw [if_neg h2, if_neg h2]
      by_cases h3 : b = 32
      · rw [if_pos h3, if_pos h3, own_one]
      · rw [if_neg h3, if_neg h3, if_pos rfl, own_one]
theorem own_three {a b : Int32} (ha : ¬ a = -1) (hb : ¬ b = -1) (c : Int32) : (own_run [a, b, c] (-1, 0, -1)).1 = own_ref3 a b c := by
  rw [own_run_in]; unfold own_step own_ref3
  by_cases h1 : own_sp a = 0
  · rw [if_pos h1, if_pos h1, if_pos rfl]
    by_cases h2 : own_isp a = 0
    · rw [if_pos h2, if_pos h2, own_run_out _ _ ha]
    · rw [if_neg h2, if_neg h2]; exact own_two hb 1 c (Or.inr rfl)
  · rw [if_neg h1, if_neg h1, if_pos rfl]; exact own_two hb 0 c (Or.inl rfl)
theorem own_four (a b c : Int32) (s : Int32 × Int32 × Int32) : (own_run [c] ((own_run [a, b] s).1, (own_run [a, b] s).2.1, (own_run [a, b] s).2.2)).1 = (own_run [a, b, c] s).1 := by
  rw [show [a, b, c] = [a, b] ++ [c] from rfl, own_run_app]
theorem own_m255 (x : Int32) : ¬ (255 : Int32) < (x &&& 255) := by
  have q := c_and x 255 (by decide)
  rw [Int32.lt_iff_toInt_lt]; have : (255 : Int32).toInt = 255 := rfl
  omega
theorem own_n1 (x : Int32) : ¬ (x &&& 255) = -1 := fun q => by
  have z := c_and x 255 (by decide)
  rw [q] at z; exact absurd z.1 (by decide)
theorem own_big {c n : Int32} (h : ¬ (255 : Int32) < c) (hn : 255 < n.toInt) : c < n := by
  rw [Int32.lt_iff_toInt_lt] at h ⊢; have : (255 : Int32).toInt = 255 := rfl
  omega
theorem own_narb {st : Int32} (h : st = 0 ∨ st = 1) : nar .boolean st = st := by rcases h with rfl | rfl <;> rfl

theorem d5_0 : decode prog_200_method_2_code 0 = .ok (.iload_n 0, 1) := by decide +kernel
theorem d5_1 : decode prog_200_method_2_code 1 = .ok (.bipush 32, 2) := by decide +kernel
theorem d5_3 : decode prog_200_method_2_code 3 = .ok (.if_icmp .eq 21, 3) := by decide +kernel
theorem d5_6 : decode prog_200_method_2_code 6 = .ok (.iload_n 0, 1) := by decide +kernel
theorem d5_7 : decode prog_200_method_2_code 7 = .ok (.bipush 9, 2) := by decide +kernel
theorem d5_9 : decode prog_200_method_2_code 9 = .ok (.if_icmp .eq 15, 3) := by decide +kernel
theorem d5_12 : decode prog_200_method_2_code 12 = .ok (.iload_n 0, 1) := by decide +kernel
theorem d5_13 : decode prog_200_method_2_code 13 = .ok (.bipush 10, 2) := by decide +kernel
theorem d5_15 : decode prog_200_method_2_code 15 = .ok (.if_icmp .eq 9, 3) := by decide +kernel
theorem d5_18 : decode prog_200_method_2_code 18 = .ok (.iload_n 0, 1) := by decide +kernel
theorem d5_19 : decode prog_200_method_2_code 19 = .ok (.bipush 13, 2) := by decide +kernel
theorem d5_21 : decode prog_200_method_2_code 21 = .ok (.if_icmp .ne 7, 3) := by decide +kernel
theorem d5_24 : decode prog_200_method_2_code 24 = .ok (.iconst 1, 1) := by decide +kernel
theorem d5_25 : decode prog_200_method_2_code 25 = .ok (.goto 4, 3) := by decide +kernel
theorem d5_28 : decode prog_200_method_2_code 28 = .ok (.iconst 0, 1) := by decide +kernel
theorem d5_29 : decode prog_200_method_2_code 29 = .ok (.ireturn, 1) := by decide +kernel
theorem ef_5 (m : MethodId) (p1 : Int32) : entryFrame m #[(.int p1)] 1 = mkF m 0 #[.val (.int p1)] [] := by first | (simp [entryFrame, mkF, argsToLocals, Value.category]; done) | rfl
def Q5 (Z : State) (p1 : Int32)  (h0 : Heap) (n0 : Nat) (v : Option Value) (h : Heap) (L : List Loc) : Prop := v = some (.int (own_sp p1)) ∧ Fr n0 L ∧ h = h0
set_option maxRecDepth 65536 in
set_option maxHeartbeats 40000000 in
theorem rm5 (l : Launch) (Z : State) (a0 : Array Value) (hw : ∀ d ∈ tables_1, d.before a0 Z = true) (ws : List Jvm.Cond) (p1 : Int32)  (h0 : Heap) (n0 : Nat) (Z0 : n0 ≤ h0.size) :
    MetFree l (⟨"com/example/einzug/einzug/rules/XmlCharacters", "isSpace", "(I)Z"⟩ : MethodName) (head1 (Jvm.Cond.code (⟨"com/example/einzug/einzug/rules/XmlCharacters", "isSpace", "(I)Z"⟩ : MethodName) prog_200_method_2_code 1 (some .boolean) :: ws) ({ frames := 0, cells := 0, slots := 0, locals := 0 } : Room)) (fun a U => a = #[(.int p1)] ∧ Z.Warmed39 U.vm ∧ U.heap = h0) (fun _ _ _ _ _ => True) (fun _ U o U' => ∃ v L, o = .returned v ∧ Q5 Z p1 h0 n0 v U'.heap L ∧ FrameEnd U o U' L ({ frames := 0, cells := 0, slots := 0, locals := 0 } : Room).cells ({ frames := 0, cells := 0, slots := 0, locals := 0 } : Room).slots) := by
  refine MetFree.of_bodySF (plainFor_of_name own_pn0) hisR ?_
  intro p e s m args below meth c s₁ Bd hml0 hP hK
  obtain ⟨rfl, hZ, hh⟩ := hP
  have hx := Bd.exec
  have hby := Bd.bytes
  have hml : c.maxLocals = 1 := hml0
  have hown : s.vm.findClass "com/example/einzug/einzug/rules/XmlCharacters" = some m.cls := findClass_of_methodNamed Bd.named
  have hnm := (name_of_methodNamed Bd.named Bd.method).1
  have X0 : Stand p l e ({ frames := 0, cells := 0, slots := 0, locals := 0 } : Room) s m #[(.int p1)] below meth c s₁ [] 0 0 := Stand.of_body Bd
  have e0 : s₁.heap = h0 := by rw [← hh, Bd.state]; rfl
  have N0 := Fr.nil n0
  refine own_top (Q := Q5 Z p1 h0 n0) (ef_5 m p1) ?_
  show own_G p.tables e below s₁ (mkF m 0 #[.val (.int p1)] []) _
  refine own_go (fun t_ k_ => XS.iloadN X0.here hx rfl (hb hby d5_0) rfl k_) ?_
  show own_G p.tables e below s₁ (mkF m 1 #[.val (.int p1)] [(.int p1)]) _
  refine own_go (fun t_ k_ => XS.bipush X0.here hx rfl (hb hby d5_1) k_) ?_
  show own_G p.tables e below s₁ (mkF m 3 #[.val (.int p1)] [(.int (32 : Int32)), (.int p1)]) _
  by_cases hc3_1 : p1 = (32 : Int32)
  · skip
    refine own_go (fun t_ k_ => XS.icmpYes X0.here hx rfl (pc0 := 3) (pc' := 24) rfl (hb hby d5_3) rfl (teq hc3_1).1 (by decide) (by decide) k_) ?_
    show own_G p.tables e below s₁ (mkF m 24 #[.val (.int p1)] []) _
    refine own_go (fun t_ k_ => XS.iconst X0.here hx rfl (hb hby d5_24) k_) ?_
    show own_G p.tables e below s₁ (mkF m 25 #[.val (.int p1)] [(.int (1 : Int32))]) _
    refine own_go (fun t_ k_ => XS.goto X0.here hx rfl (pc0 := 25) (pc' := 29) rfl (hb hby d5_25) (by decide) (by decide) k_) ?_
    show own_G p.tables e below s₁ (mkF m 29 #[.val (.int p1)] [(.int (1 : Int32))]) _
    exact own_end (v := some (.int (1 : Int32))) X0 Bd.notSynchronized (fun h => by rw [Bd.returns] at h; cases h) (fun fs hr => retN X0 hx (z := (1 : Int32)) (t := .boolean) Bd.returns (by simp) (hb hby d5_29) hr) e0 ⟨congrArg (fun z => some (Value.int z)) (by unfold own_sp; rw [if_pos hc3_1]), N0, rfl⟩ (by decide) (by decide)
  · skip
    refine own_go (fun t_ k_ => XS.icmpNo X0.here hx rfl (hb hby d5_3) rfl (feq hc3_1).1 k_) ?_
    show own_G p.tables e below s₁ (mkF m 6 #[.val (.int p1)] []) _
    refine own_go (fun t_ k_ => XS.iloadN X0.here hx rfl (hb hby d5_6) rfl k_) ?_
    show own_G p.tables e below s₁ (mkF m 7 #[.val (.int p1)] [(.int p1)]) _
    refine own_go (fun t_ k_ => XS.bipush X0.here hx rfl (hb hby d5_7) k_) ?_
    show own_G p.tables e below s₁ (mkF m 9 #[.val (.int p1)] [(.int (9 : Int32)), (.int p1)]) _
    by_cases hc9_2 : p1 = (9 : Int32)
    · skip
      refine own_go (fun t_ k_ => XS.icmpYes X0.here hx rfl (pc0 := 9) (pc' := 24) rfl (hb hby d5_9) rfl (teq hc9_2).1 (by decide) (by decide) k_) ?_
      show own_G p.tables e below s₁ (mkF m 24 #[.val (.int p1)] []) _
      refine own_go (fun t_ k_ => XS.iconst X0.here hx rfl (hb hby d5_24) k_) ?_
      show own_G p.tables e below s₁ (mkF m 25 #[.val (.int p1)] [(.int (1 : Int32))]) _
      refine own_go (fun t_ k_ => XS.goto X0.here hx rfl (pc0 := 25) (pc' := 29) rfl (hb hby d5_25) (by decide) (by decide) k_) ?_
      show own_G p.tables e below s₁ (mkF m 29 #[.val (.int p1)] [(.int (1 : Int32))]) _
      exact own_end (v := some (.int (1 : Int32))) X0 Bd.notSynchronized (fun h => by rw [Bd.returns] at h; cases h) (fun fs hr => retN X0 hx (z := (1 : Int32)) (t := .boolean) Bd.returns (by simp) (hb hby d5_29) hr) e0 ⟨congrArg (fun z => some (Value.int z)) (by unfold own_sp; rw [if_neg hc3_1, if_pos hc9_2]), N0, rfl⟩ (by decide) (by decide)
    · skip
      refine own_go (fun t_ k_ => XS.icmpNo X0.here hx rfl (hb hby d5_9) rfl (feq hc9_2).1 k_) ?_
      show own_G p.tables e below s₁ (mkF m 12 #[.val (.int p1)] []) _
      refine own_go (fun t_ k_ => XS.iloadN X0.here hx rfl (hb hby d5_12) rfl k_) ?_
      show own_G p.tables e below s₁ (mkF m 13 #[.val (.int p1)] [(.int p1)]) _
      refine own_go (fun t_ k_ => XS.bipush X0.here hx rfl (hb hby d5_13) k_) ?_
      show own_G p.tables e below s₁ (mkF m 15 #[.val (.int p1)] [(.int (10 : Int32)), (.int p1)]) _
      by_cases hc15_3 : p1 = (10 : Int32)
      · skip
        refine own_go (fun t_ k_ => XS.icmpYes X0.here hx rfl (pc0 := 15) (pc' := 24) rfl (hb hby d5_15) rfl (teq hc15_3).1 (by decide) (by decide) k_) ?_
        show own_G p.tables e below s₁ (mkF m 24 #[.val (.int p1)] []) _
        refine own_go (fun t_ k_ => XS.iconst X0.here hx rfl (hb hby d5_24) k_) ?_
        show own_G p.tables e below s₁ (mkF m 25 #[.val (.int p1)] [(.int (1 : Int32))]) _
        refine own_go (fun t_ k_ => XS.goto X0.here hx rfl (pc0 := 25) (pc' := 29) rfl (hb hby d5_25) (by decide) (by decide) k_) ?_
        show own_G p.tables e below s₁ (mkF m 29 #[.val (.int p1)] [(.int (1 : Int32))]) _
        exact own_end (v := some (.int (1 : Int32))) X0 Bd.notSynchronized (fun h => by rw [Bd.returns] at h; cases h) (fun fs hr => retN X0 hx (z := (1 : Int32)) (t := .boolean) Bd.returns (by simp) (hb hby d5_29) hr) e0 ⟨congrArg (fun z => some (Value.int z)) (by unfold own_sp; rw [if_neg hc3_1, if_neg hc9_2, if_pos hc15_3]), N0, rfl⟩ (by decide) (by decide)
      · skip
        refine own_go (fun t_ k_ => XS.icmpNo X0.here hx rfl (hb hby d5_15) rfl (feq hc15_3).1 k_) ?_
        show own_G p.tables e below s₁ (mkF m 18 #[.val (.int p1)] []) _
        refine own_go (fun t_ k_ => XS.iloadN X0.here hx rfl (hb hby d5_18) rfl k_) ?_
        show own_G p.tables e below s₁ (mkF m 19 #[.val (.int p1)] [(.int p1)]) _
        refine own_go (fun t_ k_ => XS.bipush X0.here hx rfl (hb hby d5_19) k_) ?_
        show own_G p.tables e below s₁ (mkF m 21 #[.val (.int p1)] [(.int (13 : Int32)), (.int p1)]) _
        by_cases hc21_4 : p1 = (13 : Int32)
        · skip
          refine own_go (fun t_ k_ => XS.icmpNo X0.here hx rfl (hb hby d5_21) rfl (teq hc21_4).2 k_) ?_
          show own_G p.tables e below s₁ (mkF m 24 #[.val (.int p1)] []) _
          refine own_go (fun t_ k_ => XS.iconst X0.here hx rfl (hb hby d5_24) k_) ?_
          show own_G p.tables e below s₁ (mkF m 25 #[.val (.int p1)] [(.int (1 : Int32))]) _
          refine own_go (fun t_ k_ => XS.goto X0.here hx rfl (pc0 := 25) (pc' := 29) rfl (hb hby d5_25) (by decide) (by decide) k_) ?_
          show own_G p.tables e below s₁ (mkF m 29 #[.val (.int p1)] [(.int (1 : Int32))]) _
          exact own_end (v := some (.int (1 : Int32))) X0 Bd.notSynchronized (fun h => by rw [Bd.returns] at h; cases h) (fun fs hr => retN X0 hx (z := (1 : Int32)) (t := .boolean) Bd.returns (by simp) (hb hby d5_29) hr) e0 ⟨congrArg (fun z => some (Value.int z)) (by unfold own_sp; rw [if_neg hc3_1, if_neg hc9_2, if_neg hc15_3, if_pos hc21_4]), N0, rfl⟩ (by decide) (by decide)
        · skip
          refine own_go (fun t_ k_ => XS.icmpYes X0.here hx rfl (pc0 := 21) (pc' := 28) rfl (hb hby d5_21) rfl (feq hc21_4).2 (by decide) (by decide) k_) ?_
          show own_G p.tables e below s₁ (mkF m 28 #[.val (.int p1)] []) _
          refine own_go (fun t_ k_ => XS.iconst X0.here hx rfl (hb hby d5_28) k_) ?_
          show own_G p.tables e below s₁ (mkF m 29 #[.val (.int p1)] [(.int (0 : Int32))]) _
          exact own_end (v := some (.int (0 : Int32))) X0 Bd.notSynchronized (fun h => by rw [Bd.returns] at h; cases h) (fun fs hr => retN X0 hx (z := (0 : Int32)) (t := .boolean) Bd.returns (by simp) (hb hby d5_29) hr) e0 ⟨congrArg (fun z => some (Value.int z)) (by unfold own_sp; rw [if_neg hc3_1, if_neg hc9_2, if_neg hc15_3, if_neg hc21_4]), N0, rfl⟩ (by decide) (by decide)
theorem d13_0 : decode method_2_code 0 = .ok (.iload_n 0, 1) := by decide +kernel
theorem d13_1 : decode method_2_code 1 = .ok (.bipush 32, 2) := by decide +kernel
theorem d13_3 : decode method_2_code 3 = .ok (.if_icmp .eq 21, 3) := by decide +kernel
theorem d13_6 : decode method_2_code 6 = .ok (.iload_n 0, 1) := by decide +kernel
theorem d13_7 : decode method_2_code 7 = .ok (.bipush 9, 2) := by decide +kernel
theorem d13_9 : decode method_2_code 9 = .ok (.if_icmp .eq 15, 3) := by decide +kernel
theorem d13_12 : decode method_2_code 12 = .ok (.iload_n 0, 1) := by decide +kernel
theorem d13_13 : decode method_2_code 13 = .ok (.bipush 10, 2) := by decide +kernel
theorem d13_15 : decode method_2_code 15 = .ok (.if_icmp .eq 9, 3) := by decide +kernel
theorem d13_18 : decode method_2_code 18 = .ok (.iload_n 0, 1) := by decide +kernel
theorem d13_19 : decode method_2_code 19 = .ok (.bipush 13, 2) := by decide +kernel
theorem d13_21 : decode method_2_code 21 = .ok (.if_icmp .ne 7, 3) := by decide +kernel
theorem d13_24 : decode method_2_code 24 = .ok (.iconst 1, 1) := by decide +kernel
theorem d13_25 : decode method_2_code 25 = .ok (.goto 4, 3) := by decide +kernel
theorem d13_28 : decode method_2_code 28 = .ok (.iconst 0, 1) := by decide +kernel
theorem d13_29 : decode method_2_code 29 = .ok (.ireturn, 1) := by decide +kernel
theorem ef_13 (m : MethodId) (p1 : Int32) : entryFrame m #[(.int p1)] 1 = mkF m 0 #[.val (.int p1)] [] := by first | (simp [entryFrame, mkF, argsToLocals, Value.category]; done) | rfl
def Q13 (Z : State) (p1 : Int32)  (h0 : Heap) (n0 : Nat) (v : Option Value) (h : Heap) (L : List Loc) : Prop := v = some (.int (own_sp p1)) ∧ Fr n0 L ∧ h = h0
set_option maxRecDepth 65536 in
set_option maxHeartbeats 40000000 in
theorem rm13 (l : Launch) (Z : State) (a0 : Array Value) (hw : ∀ d ∈ tables_1, d.before a0 Z = true) (ws : List Jvm.Cond) (p1 : Int32)  (h0 : Heap) (n0 : Nat) (Z0 : n0 ≤ h0.size) :
    MetFree l (⟨"com/example/einzug/einzug/core/TextCharactersClosePinLaw", "sp", "(I)Z"⟩ : MethodName) (head1 (Jvm.Cond.code (⟨"com/example/einzug/einzug/core/TextCharactersClosePinLaw", "sp", "(I)Z"⟩ : MethodName) method_2_code 1 (some .boolean) :: ws) ({ frames := 0, cells := 0, slots := 0, locals := 0 } : Room)) (fun a U => a = #[(.int p1)] ∧ Z.Warmed39 U.vm ∧ U.heap = h0) (fun _ _ _ _ _ => True) (fun _ U o U' => ∃ v L, o = .returned v ∧ Q13 Z p1 h0 n0 v U'.heap L ∧ FrameEnd U o U' L ({ frames := 0, cells := 0, slots := 0, locals := 0 } : Room).cells ({ frames := 0, cells := 0, slots := 0, locals := 0 } : Room).slots) := by
  refine MetFree.of_bodySF (plainFor_of_name own_pn1) hisR ?_
  intro p e s m args below meth c s₁ Bd hml0 hP hK
  obtain ⟨rfl, hZ, hh⟩ := hP
  have hx := Bd.exec
  have hby := Bd.bytes
  have hml : c.maxLocals = 1 := hml0
  have hown : s.vm.findClass "com/example/einzug/einzug/core/TextCharactersClosePinLaw" = some m.cls := findClass_of_methodNamed Bd.named
  have hnm := (name_of_methodNamed Bd.named Bd.method).1
  have X0 : Stand p l e ({ frames := 0, cells := 0, slots := 0, locals := 0 } : Room) s m #[(.int p1)] below meth c s₁ [] 0 0 := Stand.of_body Bd
  have e0 : s₁.heap = h0 := by rw [← hh, Bd.state]; rfl
  have N0 := Fr.nil n0
  refine own_top (Q := Q13 Z p1 h0 n0) (ef_13 m p1) ?_
  show own_G p.tables e below s₁ (mkF m 0 #[.val (.int p1)] []) _
  refine own_go (fun t_ k_ => XS.iloadN X0.here hx rfl (hb hby d13_0) rfl k_) ?_
  show own_G p.tables e below s₁ (mkF m 1 #[.val (.int p1)] [(.int p1)]) _
  refine own_go (fun t_ k_ => XS.bipush X0.here hx rfl (hb hby d13_1) k_) ?_
  show own_G p.tables e below s₁ (mkF m 3 #[.val (.int p1)] [(.int (32 : Int32)), (.int p1)]) _
  by_cases hc3_1 : p1 = (32 : Int32)
  · skip
    refine own_go (fun t_ k_ => XS.icmpYes X0.here hx rfl (pc0 := 3) (pc' := 24) rfl (hb hby d13_3) rfl (teq hc3_1).1 (by decide) (by decide) k_) ?_
    show own_G p.tables e below s₁ (mkF m 24 #[.val (.int p1)] []) _
    refine own_go (fun t_ k_ => XS.iconst X0.here hx rfl (hb hby d13_24) k_) ?_
    show own_G p.tables e below s₁ (mkF m 25 #[.val (.int p1)] [(.int (1 : Int32))]) _
    refine own_go (fun t_ k_ => XS.goto X0.here hx rfl (pc0 := 25) (pc' := 29) rfl (hb hby d13_25) (by decide) (by decide) k_) ?_
    show own_G p.tables e below s₁ (mkF m 29 #[.val (.int p1)] [(.int (1 : Int32))]) _
    exact own_end (v := some (.int (1 : Int32))) X0 Bd.notSynchronized (fun h => by rw [Bd.returns] at h; cases h) (fun fs hr => retN X0 hx (z := (1 : Int32)) (t := .boolean) Bd.returns (by simp) (hb hby d13_29) hr) e0 ⟨congrArg (fun z => some (Value.int z)) (by unfold own_sp; rw [if_pos hc3_1]), N0, rfl⟩ (by decide) (by decide)
  · skip
    refine own_go (fun t_ k_ => XS.icmpNo X0.here hx rfl (hb hby d13_3) rfl (feq hc3_1).1 k_) ?_
    show own_G p.tables e below s₁ (mkF m 6 #[.val (.int p1)] []) _
    refine own_go (fun t_ k_ => XS.iloadN X0.here hx rfl (hb hby d13_6) rfl k_) ?_
    show own_G p.tables e below s₁ (mkF m 7 #[.val (.int p1)] [(.int p1)]) _
    refine own_go (fun t_ k_ => XS.bipush X0.here hx rfl (hb hby d13_7) k_) ?_
    show own_G p.tables e below s₁ (mkF m 9 #[.val (.int p1)] [(.int (9 : Int32)), (.int p1)]) _
    by_cases hc9_2 : p1 = (9 : Int32)
    · skip
      refine own_go (fun t_ k_ => XS.icmpYes X0.here hx rfl (pc0 := 9) (pc' := 24) rfl (hb hby d13_9) rfl (teq hc9_2).1 (by decide) (by decide) k_) ?_
      show own_G p.tables e below s₁ (mkF m 24 #[.val (.int p1)] []) _
      refine own_go (fun t_ k_ => XS.iconst X0.here hx rfl (hb hby d13_24) k_) ?_
      show own_G p.tables e below s₁ (mkF m 25 #[.val (.int p1)] [(.int (1 : Int32))]) _
      refine own_go (fun t_ k_ => XS.goto X0.here hx rfl (pc0 := 25) (pc' := 29) rfl (hb hby d13_25) (by decide) (by decide) k_) ?_
      show own_G p.tables e below s₁ (mkF m 29 #[.val (.int p1)] [(.int (1 : Int32))]) _
      exact own_end (v := some (.int (1 : Int32))) X0 Bd.notSynchronized (fun h => by rw [Bd.returns] at h; cases h) (fun fs hr => retN X0 hx (z := (1 : Int32)) (t := .boolean) Bd.returns (by simp) (hb hby d13_29) hr) e0 ⟨congrArg (fun z => some (Value.int z)) (by unfold own_sp; rw [if_neg hc3_1, if_pos hc9_2]), N0, rfl⟩ (by decide) (by decide)
    · skip
      refine own_go (fun t_ k_ => XS.icmpNo X0.here hx rfl (hb hby d13_9) rfl (feq hc9_2).1 k_) ?_
      show own_G p.tables e below s₁ (mkF m 12 #[.val (.int p1)] []) _
      refine own_go (fun t_ k_ => XS.iloadN X0.here hx rfl (hb hby d13_12) rfl k_) ?_
      show own_G p.tables e below s₁ (mkF m 13 #[.val (.int p1)] [(.int p1)]) _
      refine own_go (fun t_ k_ => XS.bipush X0.here hx rfl (hb hby d13_13) k_) ?_
      show own_G p.tables e below s₁ (mkF m 15 #[.val (.int p1)] [(.int (10 : Int32)), (.int p1)]) _
      by_cases hc15_3 : p1 = (10 : Int32)
      · skip
        refine own_go (fun t_ k_ => XS.icmpYes X0.here hx rfl (pc0 := 15) (pc' := 24) rfl (hb hby d13_15) rfl (teq hc15_3).1 (by decide) (by decide) k_) ?_
        show own_G p.tables e below s₁ (mkF m 24 #[.val (.int p1)] []) _
        refine own_go (fun t_ k_ => XS.iconst X0.here hx rfl (hb hby d13_24) k_) ?_
        show own_G p.tables e below s₁ (mkF m 25 #[.val (.int p1)] [(.int (1 : Int32))]) _
        refine own_go (fun t_ k_ => XS.goto X0.here hx rfl (pc0 := 25) (pc' := 29) rfl (hb hby d13_25) (by decide) (by decide) k_) ?_
        show own_G p.tables e below s₁ (mkF m 29 #[.val (.int p1)] [(.int (1 : Int32))]) _
        exact own_end (v := some (.int (1 : Int32))) X0 Bd.notSynchronized (fun h => by rw [Bd.returns] at h; cases h) (fun fs hr => retN X0 hx (z := (1 : Int32)) (t := .boolean) Bd.returns (by simp) (hb hby d13_29) hr) e0 ⟨congrArg (fun z => some (Value.int z)) (by unfold own_sp; rw [if_neg hc3_1, if_neg hc9_2, if_pos hc15_3]), N0, rfl⟩ (by decide) (by decide)
      · skip
        refine own_go (fun t_ k_ => XS.icmpNo X0.here hx rfl (hb hby d13_15) rfl (feq hc15_3).1 k_) ?_
        show own_G p.tables e below s₁ (mkF m 18 #[.val (.int p1)] []) _
        refine own_go (fun t_ k_ => XS.iloadN X0.here hx rfl (hb hby d13_18) rfl k_) ?_
        show own_G p.tables e below s₁ (mkF m 19 #[.val (.int p1)] [(.int p1)]) _
        refine own_go (fun t_ k_ => XS.bipush X0.here hx rfl (hb hby d13_19) k_) ?_
        show own_G p.tables e below s₁ (mkF m 21 #[.val (.int p1)] [(.int (13 : Int32)), (.int p1)]) _
        by_cases hc21_4 : p1 = (13 : Int32)
        · skip
          refine own_go (fun t_ k_ => XS.icmpNo X0.here hx rfl (hb hby d13_21) rfl (teq hc21_4).2 k_) ?_
          show own_G p.tables e below s₁ (mkF m 24 #[.val (.int p1)] []) _
          refine own_go (fun t_ k_ => XS.iconst X0.here hx rfl (hb hby d13_24) k_) ?_
          show own_G p.tables e below s₁ (mkF m 25 #[.val (.int p1)] [(.int (1 : Int32))]) _
          refine own_go (fun t_ k_ => XS.goto X0.here hx rfl (pc0 := 25) (pc' := 29) rfl (hb hby d13_25) (by decide) (by decide) k_) ?_
          show own_G p.tables e below s₁ (mkF m 29 #[.val (.int p1)] [(.int (1 : Int32))]) _
          exact own_end (v := some (.int (1 : Int32))) X0 Bd.notSynchronized (fun h => by rw [Bd.returns] at h; cases h) (fun fs hr => retN X0 hx (z := (1 : Int32)) (t := .boolean) Bd.returns (by simp) (hb hby d13_29) hr) e0 ⟨congrArg (fun z => some (Value.int z)) (by unfold own_sp; rw [if_neg hc3_1, if_neg hc9_2, if_neg hc15_3, if_pos hc21_4]), N0, rfl⟩ (by decide) (by decide)
        · skip
          refine own_go (fun t_ k_ => XS.icmpYes X0.here hx rfl (pc0 := 21) (pc' := 28) rfl (hb hby d13_21) rfl (feq hc21_4).2 (by decide) (by decide) k_) ?_
          show own_G p.tables e below s₁ (mkF m 28 #[.val (.int p1)] []) _
          refine own_go (fun t_ k_ => XS.iconst X0.here hx rfl (hb hby d13_28) k_) ?_
          show own_G p.tables e below s₁ (mkF m 29 #[.val (.int p1)] [(.int (0 : Int32))]) _
          exact own_end (v := some (.int (0 : Int32))) X0 Bd.notSynchronized (fun h => by rw [Bd.returns] at h; cases h) (fun fs hr => retN X0 hx (z := (0 : Int32)) (t := .boolean) Bd.returns (by simp) (hb hby d13_29) hr) e0 ⟨congrArg (fun z => some (Value.int z)) (by unfold own_sp; rw [if_neg hc3_1, if_neg hc9_2, if_neg hc15_3, if_neg hc21_4]), N0, rfl⟩ (by decide) (by decide)
theorem d10_0 : decode prog_185_method_2_code 0 = .ok (.iload_n 0, 1) := by decide +kernel
theorem d10_1 : decode prog_185_method_2_code 1 = .ok (.ifCond .lt 23, 3) := by decide +kernel
theorem d10_4 : decode prog_185_method_2_code 4 = .ok (.iload_n 0, 1) := by decide +kernel
theorem d10_5 : decode prog_185_method_2_code 5 = .ok (.getstatic 7, 3) := by decide +kernel
theorem d10_8 : decode prog_185_method_2_code 8 = .ok (.arraylength, 1) := by decide +kernel
theorem d10_9 : decode prog_185_method_2_code 9 = .ok (.if_icmp .ge 15, 3) := by decide +kernel
theorem d10_12 : decode prog_185_method_2_code 12 = .ok (.getstatic 7, 3) := by decide +kernel
theorem d10_15 : decode prog_185_method_2_code 15 = .ok (.iload_n 0, 1) := by decide +kernel
theorem d10_16 : decode prog_185_method_2_code 16 = .ok (.baload, 1) := by decide +kernel
theorem d10_17 : decode prog_185_method_2_code 17 = .ok (.ifCond .eq 7, 3) := by decide +kernel
theorem d10_20 : decode prog_185_method_2_code 20 = .ok (.iconst 1, 1) := by decide +kernel
theorem d10_21 : decode prog_185_method_2_code 21 = .ok (.goto 4, 3) := by decide +kernel
theorem d10_24 : decode prog_185_method_2_code 24 = .ok (.iconst 0, 1) := by decide +kernel
theorem d10_25 : decode prog_185_method_2_code 25 = .ok (.ireturn, 1) := by decide +kernel
theorem ef_10 (m : MethodId) (p1 : Int32) : entryFrame m #[(.int p1)] 1 = mkF m 0 #[.val (.int p1)] [] := by first | (simp [entryFrame, mkF, argsToLocals, Value.category]; done) | rfl
def Q10 (Z : State) (p1 : Int32) (aP : Addr) (clP : Cell) (h0 : Heap) (n0 : Nat) (v : Option Value) (h : Heap) (L : List Loc) : Prop := v = some (.int (own_isp p1)) ∧ Fr n0 L ∧ h = h0
set_option maxRecDepth 65536 in
set_option maxHeartbeats 40000000 in
theorem rm10 (l : Launch) (Z : State) (a0 : Array Value) (hw : ∀ d ∈ tables_1, d.before a0 Z = true) (ws : List Jvm.Cond) (p1 : Int32) (aP : Addr) (clP : Cell) (h0 : Heap) (n0 : Nat) (Z0 : n0 ≤ h0.size) (S_P : Sta Z h0 "com/example/einzug/einzug/rules/PermittedCharacters" "PERMITTED" "[Z" (.ref aP)) (Ar_P : Arr Z h0 aP clP .boolean) (sz_P : clP.slots.size = 256) (tab_P : ∀ k, k < 256 → clP.slots[k]? = some (.int (own_perm k))) :
    MetFree l (⟨"com/example/einzug/einzug/rules/PermittedCharacters", "isPermitted", "(I)Z"⟩ : MethodName) (head1 (Jvm.Cond.code (⟨"com/example/einzug/einzug/rules/PermittedCharacters", "isPermitted", "(I)Z"⟩ : MethodName) prog_185_method_2_code 1 (some .boolean) :: ws) ({ frames := 0, cells := 0, slots := 0, locals := 0 } : Room)) (fun a U => a = #[(.int p1)] ∧ Z.Warmed39 U.vm ∧ U.heap = h0) (fun _ _ _ _ _ => True) (fun _ U o U' => ∃ v L, o = .returned v ∧ Q10 Z p1 aP clP h0 n0 v U'.heap L ∧ FrameEnd U o U' L ({ frames := 0, cells := 0, slots := 0, locals := 0 } : Room).cells ({ frames := 0, cells := 0, slots := 0, locals := 0 } : Room).slots) := by
  refine MetFree.of_bodySF (plainFor_of_name own_pn2) hisR ?_
  intro p e s m args below meth c s₁ Bd hml0 hP hK
  obtain ⟨rfl, hZ, hh⟩ := hP
  have hx := Bd.exec
  have hby := Bd.bytes
  have hml : c.maxLocals = 1 := hml0
  have hown : s.vm.findClass "com/example/einzug/einzug/rules/PermittedCharacters" = some m.cls := findClass_of_methodNamed Bd.named
  have hnm := (name_of_methodNamed Bd.named Bd.method).1
  have X0 : Stand p l e ({ frames := 0, cells := 0, slots := 0, locals := 0 } : Room) s m #[(.int p1)] below meth c s₁ [] 0 0 := Stand.of_body Bd
  have e0 : s₁.heap = h0 := by rw [← hh, Bd.state]; rfl
  have N0 := Fr.nil n0
  refine own_top (Q := Q10 Z p1 aP clP h0 n0) (ef_10 m p1) ?_
  show own_G p.tables e below s₁ (mkF m 0 #[.val (.int p1)] []) _
  refine own_go (fun t_ k_ => XS.iloadN X0.here hx rfl (hb hby d10_0) rfl k_) ?_
  show own_G p.tables e below s₁ (mkF m 1 #[.val (.int p1)] [(.int p1)]) _
  by_cases hc1_1 : p1 < (0 : Int32)
  · skip
    refine own_go (fun t_ k_ => XS.ifYes X0.here hx rfl (pc0 := 1) (pc' := 24) rfl (hb hby d10_1) rfl ((if0 _ _).trans (tlt hc1_1).1) (by decide) (by decide) k_) ?_
    show own_G p.tables e below s₁ (mkF m 24 #[.val (.int p1)] []) _
    refine own_go (fun t_ k_ => XS.iconst X0.here hx rfl (hb hby d10_24) k_) ?_
    show own_G p.tables e below s₁ (mkF m 25 #[.val (.int p1)] [(.int (0 : Int32))]) _
    exact own_end (v := some (.int (0 : Int32))) X0 Bd.notSynchronized (fun h => by rw [Bd.returns] at h; cases h) (fun fs hr => retN X0 hx (z := (0 : Int32)) (t := .boolean) Bd.returns (by simp) (hb hby d10_25) hr) e0 ⟨congrArg (fun z => some (Value.int z)) (by unfold own_isp; rw [if_pos hc1_1]), N0, rfl⟩ (by decide) (by decide)
  · skip
    refine own_go (fun t_ k_ => XS.ifNo X0.here hx rfl (hb hby d10_1) rfl ((if0 _ _).trans (flt hc1_1).1) k_) ?_
    show own_G p.tables e below s₁ (mkF m 4 #[.val (.int p1)] []) _
    refine own_go (fun t_ k_ => XS.iloadN X0.here hx rfl (hb hby d10_4) rfl k_) ?_
    show own_G p.tables e below s₁ (mkF m 5 #[.val (.int p1)] [(.int p1)]) _
    obtain ⟨T2, X2, e2, st2⟩ := getS2 X0 hx hZ hown (host := "") (Or.inl (hw _ (List.mem_of_getElem? (i := 53) rfl))) Via.refl e0 S_P (g := (mkF m 5 #[.val (.int p1)] [(.int p1)])) rfl (hb hby d10_5)
    refine own_go st2 ?_
    show own_G p.tables e below T2 (mkF m 8 #[.val (.int p1)] [(.ref aP), (.int p1)]) _
    refine own_go (fun t_ k_ => X2.arraylength hx (by rw [e2]; exact Ar_P.1) (State.isArrayOf_alike hZ.alike Ar_P.2.1) (g := (mkF m 8 #[.val (.int p1)] [(.ref aP), (.int p1)])) rfl rfl (hb hby d10_8) _ k_) ?_
    show own_G p.tables e below T2 (mkF m 9 #[.val (.int p1)] [(.int clP.slots.size.toInt32), (.int p1)]) _
    rw [show clP.slots.size.toInt32 = 256 by rw [sz_P]; rfl]
    show own_G p.tables e below T2 (mkF m 9 #[.val (.int p1)] [(.int (256 : Int32)), (.int p1)]) _
    by_cases hc9_3 : p1 < (256 : Int32)
    · skip
      refine own_go (fun t_ k_ => XS.icmpNo X2.here hx rfl (hb hby d10_9) rfl (tlt hc9_3).2.1 k_) ?_
      show own_G p.tables e below T2 (mkF m 12 #[.val (.int p1)] []) _
      obtain ⟨T4, X4, e4, st4⟩ := getS2 X2 hx hZ hown (host := "") (Or.inl (hw _ (List.mem_of_getElem? (i := 53) rfl))) Via.refl e2 S_P (g := (mkF m 12 #[.val (.int p1)] [])) rfl (hb hby d10_12)
      refine own_go st4 ?_
      show own_G p.tables e below T4 (mkF m 15 #[.val (.int p1)] [(.ref aP)]) _
      refine own_go (fun t_ k_ => XS.iloadN X4.here hx rfl (hb hby d10_15) rfl k_) ?_
      show own_G p.tables e below T4 (mkF m 16 #[.val (.int p1)] [(.int p1), (.ref aP)]) _
      refine own_go (fun t_ k_ => X4.baloadBooleans hx (j := p1) (v := (.int (own_perm (p1).toNatClampNeg))) (by rw [e4]; exact Ar_P.1) (State.isArrayOf_alike hZ.alike Ar_P.2.1) Ar_P.2.2 (by rw [sz_P]; rintro (q | q); exact hc1_1 q; have := own_inb hc1_1 hc9_3; omega) (tab_P _ (own_inb hc1_1 hc9_3)) (g := (mkF m 16 #[.val (.int p1)] [(.int p1), (.ref aP)])) rfl rfl (hb hby d10_16) _ k_) ?_
      show own_G p.tables e below T4 (mkF m 17 #[.val (.int p1)] [(.int (own_perm (p1).toNatClampNeg))]) _
      by_cases hc17_5 : (own_perm (p1).toNatClampNeg) = (0 : Int32)
      · skip
        refine own_go (fun t_ k_ => XS.ifYes X4.here hx rfl (pc0 := 17) (pc' := 24) rfl (hb hby d10_17) rfl ((if0 _ _).trans (teq hc17_5).1) (by decide) (by decide) k_) ?_
        show own_G p.tables e below T4 (mkF m 24 #[.val (.int p1)] []) _
        refine own_go (fun t_ k_ => XS.iconst X4.here hx rfl (hb hby d10_24) k_) ?_
        show own_G p.tables e below T4 (mkF m 25 #[.val (.int p1)] [(.int (0 : Int32))]) _
        exact own_end (v := some (.int (0 : Int32))) X4 Bd.notSynchronized (fun h => by rw [Bd.returns] at h; cases h) (fun fs hr => retN X4 hx (z := (0 : Int32)) (t := .boolean) Bd.returns (by simp) (hb hby d10_25) hr) e4 ⟨congrArg (fun z => some (Value.int z)) (by unfold own_isp; rw [if_neg hc1_1, if_pos hc9_3, if_pos hc17_5]), N0, rfl⟩ (by decide) (by decide)
      · skip
        refine own_go (fun t_ k_ => XS.ifNo X4.here hx rfl (hb hby d10_17) rfl ((if0 _ _).trans (feq hc17_5).1) k_) ?_
        show own_G p.tables e below T4 (mkF m 20 #[.val (.int p1)] []) _
        refine own_go (fun t_ k_ => XS.iconst X4.here hx rfl (hb hby d10_20) k_) ?_
        show own_G p.tables e below T4 (mkF m 21 #[.val (.int p1)] [(.int (1 : Int32))]) _
        refine own_go (fun t_ k_ => XS.goto X4.here hx rfl (pc0 := 21) (pc' := 25) rfl (hb hby d10_21) (by decide) (by decide) k_) ?_
        show own_G p.tables e below T4 (mkF m 25 #[.val (.int p1)] [(.int (1 : Int32))]) _
        exact own_end (v := some (.int (1 : Int32))) X4 Bd.notSynchronized (fun h => by rw [Bd.returns] at h; cases h) (fun fs hr => retN X4 hx (z := (1 : Int32)) (t := .boolean) Bd.returns (by simp) (hb hby d10_25) hr) e4 ⟨congrArg (fun z => some (Value.int z)) (by unfold own_isp; rw [if_neg hc1_1, if_pos hc9_3, if_neg hc17_5]), N0, rfl⟩ (by decide) (by decide)
    · skip
      refine own_go (fun t_ k_ => XS.icmpYes X2.here hx rfl (pc0 := 9) (pc' := 24) rfl (hb hby d10_9) rfl (flt hc9_3).2.1 (by decide) (by decide) k_) ?_
      show own_G p.tables e below T2 (mkF m 24 #[.val (.int p1)] []) _
      refine own_go (fun t_ k_ => XS.iconst X2.here hx rfl (hb hby d10_24) k_) ?_
      show own_G p.tables e below T2 (mkF m 25 #[.val (.int p1)] [(.int (0 : Int32))]) _
      exact own_end (v := some (.int (0 : Int32))) X2 Bd.notSynchronized (fun h => by rw [Bd.returns] at h; cases h) (fun fs hr => retN X2 hx (z := (0 : Int32)) (t := .boolean) Bd.returns (by simp) (hb hby d10_25) hr) e2 ⟨congrArg (fun z => some (Value.int z)) (by unfold own_isp; rw [if_neg hc1_1, if_neg hc9_3]), N0, rfl⟩ (by decide) (by decide)
theorem d8_0 : decode jdk_89_method_14_code 0 = .ok (.iload_n 0, 1) := by decide +kernel
theorem d8_1 : decode jdk_89_method_14_code 1 = .ok (.ldc 75, 2) := by decide +kernel
theorem d8_3 : decode jdk_89_method_14_code 3 = .ok (.if_icmp .lt 13, 3) := by decide +kernel
theorem d8_16 : decode jdk_89_method_14_code 16 = .ok (.iconst 0, 1) := by decide +kernel
theorem d8_17 : decode jdk_89_method_14_code 17 = .ok (.ireturn, 1) := by decide +kernel
theorem ef_8 (m : MethodId) (p1 : Int32) : entryFrame m #[(.int p1)] 1 = mkF m 0 #[.val (.int p1)] [] := by first | (simp [entryFrame, mkF, argsToLocals, Value.category]; done) | rfl
def Q8 (Z : State) (p1 : Int32)  (h0 : Heap) (n0 : Nat) (v : Option Value) (h : Heap) (L : List Loc) : Prop := v = some (.int (0 : Int32)) ∧ Fr n0 L ∧ h = h0
set_option maxRecDepth 65536 in
set_option maxHeartbeats 40000000 in
theorem rm8 (l : Launch) (Z : State) (a0 : Array Value) (hw : ∀ d ∈ tables_1, d.before a0 Z = true) (ws : List Jvm.Cond) (p1 : Int32)  (h0 : Heap) (n0 : Nat) (Z0 : n0 ≤ h0.size) (hc : ¬ (255 : Int32) < p1) :
    MetFree l (⟨"java/lang/Character", "isHighSurrogate", "(C)Z"⟩ : MethodName) (head1 (Jvm.Cond.code (⟨"java/lang/Character", "isHighSurrogate", "(C)Z"⟩ : MethodName) jdk_89_method_14_code 1 (some .boolean) :: ws) ({ frames := 0, cells := 0, slots := 0, locals := 0 } : Room)) (fun a U => a = #[(.int p1)] ∧ Z.Warmed39 U.vm ∧ U.heap = h0) (fun _ _ _ _ _ => True) (fun _ U o U' => ∃ v L, o = .returned v ∧ Q8 Z p1 h0 n0 v U'.heap L ∧ FrameEnd U o U' L ({ frames := 0, cells := 0, slots := 0, locals := 0 } : Room).cells ({ frames := 0, cells := 0, slots := 0, locals := 0 } : Room).slots) := by
  refine MetFree.of_bodySF (plainFor_of_name own_pn3) hisR ?_
  intro p e s m args below meth c s₁ Bd hml0 hP hK
  obtain ⟨rfl, hZ, hh⟩ := hP
  have hx := Bd.exec
  have hby := Bd.bytes
  have hml : c.maxLocals = 1 := hml0
  have hown : s.vm.findClass "java/lang/Character" = some m.cls := findClass_of_methodNamed Bd.named
  have hnm := (name_of_methodNamed Bd.named Bd.method).1
  have X0 : Stand p l e ({ frames := 0, cells := 0, slots := 0, locals := 0 } : Room) s m #[(.int p1)] below meth c s₁ [] 0 0 := Stand.of_body Bd
  have e0 : s₁.heap = h0 := by rw [← hh, Bd.state]; rfl
  have N0 := Fr.nil n0
  refine own_top (Q := Q8 Z p1 h0 n0) (ef_8 m p1) ?_
  show own_G p.tables e below s₁ (mkF m 0 #[.val (.int p1)] []) _
  refine own_go (fun t_ k_ => XS.iloadN X0.here hx rfl (hb hby d8_0) rfl k_) ?_
  show own_G p.tables e below s₁ (mkF m 1 #[.val (.int p1)] [(.int p1)]) _
  refine own_go (fun t_ k_ => X0.ldcInt hx hown (mvT hZ (hw _ (List.mem_of_getElem? (i := 44) rfl))) (g := (mkF m 1 #[.val (.int p1)] [(.int p1)])) rfl (hb hby d8_1) _ k_) ?_
  show own_G p.tables e below s₁ (mkF m 3 #[.val (.int p1)] [(.int (55296 : Int32)), (.int p1)]) _
  refine own_go (fun t_ k_ => XS.icmpYes X0.here hx rfl (pc0 := 3) (pc' := 16) rfl (hb hby d8_3) rfl (tlt (own_big hc (by decide))).1 (by decide) (by decide) k_) ?_
  show own_G p.tables e below s₁ (mkF m 16 #[.val (.int p1)] []) _
  refine own_go (fun t_ k_ => XS.iconst X0.here hx rfl (hb hby d8_16) k_) ?_
  show own_G p.tables e below s₁ (mkF m 17 #[.val (.int p1)] [(.int (0 : Int32))]) _
  exact own_end (v := some (.int (0 : Int32))) X0 Bd.notSynchronized (fun h => by rw [Bd.returns] at h; cases h) (fun fs hr => retN X0 hx (z := (0 : Int32)) (t := .boolean) Bd.returns (by simp) (hb hby d8_17) hr) e0 ⟨rfl, N0, rfl⟩ (by decide) (by decide)
theorem d9_0 : decode jdk_89_method_18_code 0 = .ok (.iload_n 0, 1) := by decide +kernel
theorem d9_1 : decode jdk_89_method_18_code 1 = .ok (.ldc 73, 2) := by decide +kernel
theorem d9_3 : decode jdk_89_method_18_code 3 = .ok (.if_icmp .lt 7, 3) := by decide +kernel
theorem d9_10 : decode jdk_89_method_18_code 10 = .ok (.iconst 1, 1) := by decide +kernel
theorem d9_11 : decode jdk_89_method_18_code 11 = .ok (.ireturn, 1) := by decide +kernel
theorem ef_9 (m : MethodId) (p1 : Int32) : entryFrame m #[(.int p1)] 1 = mkF m 0 #[.val (.int p1)] [] := by first | (simp [entryFrame, mkF, argsToLocals, Value.category]; done) | rfl
def Q9 (Z : State) (p1 : Int32)  (h0 : Heap) (n0 : Nat) (v : Option Value) (h : Heap) (L : List Loc) : Prop := v = some (.int (1 : Int32)) ∧ Fr n0 L ∧ h = h0
set_option maxRecDepth 65536 in
set_option maxHeartbeats 40000000 in
theorem rm9 (l : Launch) (Z : State) (a0 : Array Value) (hw : ∀ d ∈ tables_1, d.before a0 Z = true) (ws : List Jvm.Cond) (p1 : Int32)  (h0 : Heap) (n0 : Nat) (Z0 : n0 ≤ h0.size) (hc : ¬ (255 : Int32) < p1) :
    MetFree l (⟨"java/lang/Character", "charCount", "(I)I"⟩ : MethodName) (head1 (Jvm.Cond.code (⟨"java/lang/Character", "charCount", "(I)I"⟩ : MethodName) jdk_89_method_18_code 1 (some .int) :: ws) ({ frames := 0, cells := 0, slots := 0, locals := 0 } : Room)) (fun a U => a = #[(.int p1)] ∧ Z.Warmed39 U.vm ∧ U.heap = h0) (fun _ _ _ _ _ => True) (fun _ U o U' => ∃ v L, o = .returned v ∧ Q9 Z p1 h0 n0 v U'.heap L ∧ FrameEnd U o U' L ({ frames := 0, cells := 0, slots := 0, locals := 0 } : Room).cells ({ frames := 0, cells := 0, slots := 0, locals := 0 } : Room).slots) := by
  refine MetFree.of_bodySF (plainFor_of_name own_pn3) hisR ?_
  intro p e s m args below meth c s₁ Bd hml0 hP hK
  obtain ⟨rfl, hZ, hh⟩ := hP
  have hx := Bd.exec
  have hby := Bd.bytes
  have hml : c.maxLocals = 1 := hml0
  have hown : s.vm.findClass "java/lang/Character" = some m.cls := findClass_of_methodNamed Bd.named
  have hnm := (name_of_methodNamed Bd.named Bd.method).1
  have X0 : Stand p l e ({ frames := 0, cells := 0, slots := 0, locals := 0 } : Room) s m #[(.int p1)] below meth c s₁ [] 0 0 := Stand.of_body Bd
  have e0 : s₁.heap = h0 := by rw [← hh, Bd.state]; rfl
  have N0 := Fr.nil n0
  refine own_top (Q := Q9 Z p1 h0 n0) (ef_9 m p1) ?_
  show own_G p.tables e below s₁ (mkF m 0 #[.val (.int p1)] []) _
  refine own_go (fun t_ k_ => XS.iloadN X0.here hx rfl (hb hby d9_0) rfl k_) ?_
  show own_G p.tables e below s₁ (mkF m 1 #[.val (.int p1)] [(.int p1)]) _
  refine own_go (fun t_ k_ => X0.ldcInt hx hown (mvT hZ (hw _ (List.mem_of_getElem? (i := 48) rfl))) (g := (mkF m 1 #[.val (.int p1)] [(.int p1)])) rfl (hb hby d9_1) _ k_) ?_
  show own_G p.tables e below s₁ (mkF m 3 #[.val (.int p1)] [(.int (65536 : Int32)), (.int p1)]) _
  refine own_go (fun t_ k_ => XS.icmpYes X0.here hx rfl (pc0 := 3) (pc' := 10) rfl (hb hby d9_3) rfl (tlt (own_big hc (by decide))).1 (by decide) (by decide) k_) ?_
  show own_G p.tables e below s₁ (mkF m 10 #[.val (.int p1)] []) _
  refine own_go (fun t_ k_ => XS.iconst X0.here hx rfl (hb hby d9_10) k_) ?_
  show own_G p.tables e below s₁ (mkF m 11 #[.val (.int p1)] [(.int (1 : Int32))]) _
  exact own_end (v := some (.int (1 : Int32))) X0 Bd.notSynchronized (fun h => by rw [Bd.returns] at h; cases h) (fun fs hr => retI X0 hx Bd.returns (hb hby d9_11) hr) e0 ⟨rfl, N0, rfl⟩ (by decide) (by decide)
theorem d7_0 : decode jdk_89_method_23_code 0 = .ok (.aload_n 0, 1) := by decide +kernel
theorem d7_1 : decode jdk_89_method_23_code 1 = .ok (.iload_n 1, 1) := by decide +kernel
theorem d7_2 : decode jdk_89_method_23_code 2 = .ok (.caload, 1) := by decide +kernel
theorem d7_3 : decode jdk_89_method_23_code 3 = .ok (.istore_n 3, 1) := by decide +kernel
theorem d7_4 : decode jdk_89_method_23_code 4 = .ok (.iload_n 3, 1) := by decide +kernel
theorem d7_5 : decode jdk_89_method_23_code 5 = .ok (.invokestatic 78, 3) := by decide +kernel
theorem d7_8 : decode jdk_89_method_23_code 8 = .ok (.ifCond .eq 31, 3) := by decide +kernel
theorem d7_39 : decode jdk_89_method_23_code 39 = .ok (.iload_n 3, 1) := by decide +kernel
theorem d7_40 : decode jdk_89_method_23_code 40 = .ok (.ireturn, 1) := by decide +kernel
theorem ef_7 (m : MethodId) (a1 : Addr) (p2 : Int32) (p3 : Int32) : entryFrame m #[(.ref a1), (.int p2), (.int p3)] 5 = mkF m 0 #[.val (.ref a1), .val (.int p2), .val (.int p3), .unset, .unset] [] := by first | (simp [entryFrame, mkF, argsToLocals, Value.category]; done) | rfl
def Q7 (Z : State) (a1 : Addr) (p2 : Int32) (p3 : Int32) (cl : Cell) (z cc : Int32) (h0 : Heap) (n0 : Nat) (v : Option Value) (h : Heap) (L : List Loc) : Prop := v = some (.int cc) ∧ Fr n0 L ∧ h = h0
set_option maxRecDepth 65536 in
set_option maxHeartbeats 40000000 in
theorem rm7 (l : Launch) (Z : State) (a0 : Array Value) (hw : ∀ d ∈ tables_1, d.before a0 Z = true) (ws : List Jvm.Cond) (a1 : Addr) (p2 : Int32) (p3 : Int32) (cl : Cell) (z cc : Int32) (h0 : Heap) (n0 : Nat) (Z0 : n0 ≤ h0.size) (Ar : Arr Z h0 a1 cl .char) (Sz : cl.slots.size = z.toNatClampNeg) (Mz : ¬ z < 0) (hin : ¬ (p2 < 0 ∨ cl.slots.size ≤ p2.toNatClampNeg)) (hat : cl.slots[p2.toNatClampNeg]? = some (.int cc)) (hc : ¬ (255 : Int32) < cc) :
    MetFree l (⟨"java/lang/Character", "codePointAtImpl", "([CII)I"⟩ : MethodName) (head1 (Jvm.Cond.code (⟨"java/lang/Character", "codePointAtImpl", "([CII)I"⟩ : MethodName) jdk_89_method_23_code 5 (some .int) :: ws) ({ frames := 1, cells := 0, slots := 0, locals := 12 } : Room)) (fun a U => a = #[(.ref a1), (.int p2), (.int p3)] ∧ Z.Warmed39 U.vm ∧ U.heap = h0) (fun _ _ _ _ _ => True) (fun _ U o U' => ∃ v L, o = .returned v ∧ Q7 Z a1 p2 p3 cl z cc h0 n0 v U'.heap L ∧ FrameEnd U o U' L ({ frames := 1, cells := 0, slots := 0, locals := 12 } : Room).cells ({ frames := 1, cells := 0, slots := 0, locals := 12 } : Room).slots) := by
  refine MetFree.of_bodySF (plainFor_of_name own_pn3) hisR ?_
  intro p e s m args below meth c s₁ Bd hml0 hP hK
  obtain ⟨rfl, hZ, hh⟩ := hP
  have hx := Bd.exec
  have hby := Bd.bytes
  have hml : c.maxLocals = 5 := hml0
  have hown : s.vm.findClass "java/lang/Character" = some m.cls := findClass_of_methodNamed Bd.named
  have hnm := (name_of_methodNamed Bd.named Bd.method).1
  have X0 : Stand p l e ({ frames := 1, cells := 0, slots := 0, locals := 12 } : Room) s m #[(.ref a1), (.int p2), (.int p3)] below meth c s₁ [] 0 0 := Stand.of_body Bd
  have e0 : s₁.heap = h0 := by rw [← hh, Bd.state]; rfl
  have N0 := Fr.nil n0
  refine own_top (Q := Q7 Z a1 p2 p3 cl z cc h0 n0) (ef_7 m a1 p2 p3) ?_
  show own_G p.tables e below s₁ (mkF m 0 #[.val (.ref a1), .val (.int p2), .val (.int p3), .unset, .unset] []) _
  refine own_go (fun t_ k_ => XS.aloadN X0.here hx rfl (hb hby d7_0) rfl rfl k_) ?_
  show own_G p.tables e below s₁ (mkF m 1 #[.val (.ref a1), .val (.int p2), .val (.int p3), .unset, .unset] [(.ref a1)]) _
  refine own_go (fun t_ k_ => XS.iloadN X0.here hx rfl (hb hby d7_1) rfl k_) ?_
  show own_G p.tables e below s₁ (mkF m 2 #[.val (.ref a1), .val (.int p2), .val (.int p3), .unset, .unset] [(.int p2), (.ref a1)]) _
  refine own_go (fun t_ k_ => X0.caload hx (j := p2) (v := (.int cc)) (by rw [e0]; exact Ar.1) (State.isArrayOf_alike hZ.alike Ar.2.1) Ar.2.2 hin hat (g := (mkF m 2 #[.val (.ref a1), .val (.int p2), .val (.int p3), .unset, .unset] [(.int p2), (.ref a1)])) rfl rfl (hb hby d7_2) _ k_) ?_
  show own_G p.tables e below s₁ (mkF m 3 #[.val (.ref a1), .val (.int p2), .val (.int p3), .unset, .unset] [(.int cc)]) _
  refine own_go (fun t_ k_ => XS.istoreN X0.here hx rfl (hb hby d7_3) rfl (l' := #[.val (.ref a1), .val (.int p2), .val (.int p3), .val (.int cc), .unset]) rfl k_) ?_
  show own_G p.tables e below s₁ (mkF m 4 #[.val (.ref a1), .val (.int p2), .val (.int p3), .val (.int cc), .unset] []) _
  refine own_go (fun t_ k_ => XS.iloadN X0.here hx rfl (hb hby d7_4) rfl k_) ?_
  show own_G p.tables e below s₁ (mkF m 5 #[.val (.ref a1), .val (.int p2), .val (.int p3), .val (.int cc), .unset] [(.int cc)]) _
  obtain ⟨_, _, ⟨T1, L1, k1, n1⟩, -, X1, ⟨Lc1, hQ1, l1, y1, z1⟩, st1⟩ := Jvm.LawKit.callS X0 hx (y := (⟨"java/lang/Character", "isHighSurrogate", "(C)Z"⟩ : MethodName)) hown (mvT hZ (hw _ (List.mem_of_getElem? (i := 41) rfl))) (mvT hZ (hw _ (List.mem_of_getElem? (i := 42) rfl))) (mvT hZ (hw _ (List.mem_of_getElem? (i := 36) rfl))) (mvT hZ (hw _ (List.mem_of_getElem? (i := 43) rfl))) (by decide) (backOf (W := 0) (rm8 l Z a0 hw [] cc h0 n0 Z0 hc) hZ (hw _ (List.mem_of_getElem? (i := 43) rfl)) (hw _ (List.mem_of_getElem? (i := 36) rfl)) (by decide) (by decide)) (g := (mkF m 5 #[.val (.ref a1), .val (.int p2), .val (.int p3), .val (.int cc), .unset] [(.int cc)])) rfl (by rw [hml]; rfl) (argsL := [(.int cc)]) (rest := []) (lenOf own_pd0 rfl) rfl (by show 2 * 0 + _ ≤ _; exact Nat.le_of_eq rfl) (hb hby d7_5) (fun _ _ => ⟨rfl, e0, (by decide : 0 + 0 ≤ _), (by decide : 0 + 0 ≤ _)⟩)
  dsimp only [Pt.U, Pt.locs, Pt.cells, Pt.slots] at X1 l1 y1 z1 st1 hQ1
  subst l1 y1 z1
  obtain ⟨rfl, N1q, e1⟩ := hQ1
  have N1 := Fr.app N0 N1q
  refine own_go st1 ?_
  show own_G p.tables e below T1 (mkF m 8 #[.val (.ref a1), .val (.int p2), .val (.int p3), .val (.int cc), .unset] [(.int (0 : Int32))]) _
  refine own_go (fun t_ k_ => XS.ifYes X1.here hx rfl (pc0 := 8) (pc' := 39) rfl (hb hby d7_8) rfl ((if0 _ _).trans (teq (by decide : ((0 : Int32) = (0 : Int32)))).1) (by decide) (by decide) k_) ?_
  show own_G p.tables e below T1 (mkF m 39 #[.val (.ref a1), .val (.int p2), .val (.int p3), .val (.int cc), .unset] []) _
  refine own_go (fun t_ k_ => XS.iloadN X1.here hx rfl (hb hby d7_39) rfl k_) ?_
  show own_G p.tables e below T1 (mkF m 40 #[.val (.ref a1), .val (.int p2), .val (.int p3), .val (.int cc), .unset] [(.int cc)]) _
  exact own_end (v := some (.int cc)) X1 Bd.notSynchronized (fun h => by rw [Bd.returns] at h; cases h) (fun fs hr => retI X1 hx Bd.returns (hb hby d7_40) hr) e1 ⟨rfl, N1, rfl⟩ (by decide) (by decide)
theorem d6_0 : decode jdk_89_method_22_code 0 = .ok (.iload_n 1, 1) := by decide +kernel
theorem d6_1 : decode jdk_89_method_22_code 1 = .ok (.iload_n 2, 1) := by decide +kernel
theorem d6_2 : decode jdk_89_method_22_code 2 = .ok (.if_icmp .ge 13, 3) := by decide +kernel
theorem d6_5 : decode jdk_89_method_22_code 5 = .ok (.iload_n 1, 1) := by decide +kernel
theorem d6_6 : decode jdk_89_method_22_code 6 = .ok (.ifCond .lt 9, 3) := by decide +kernel
theorem d6_9 : decode jdk_89_method_22_code 9 = .ok (.iload_n 2, 1) := by decide +kernel
theorem d6_10 : decode jdk_89_method_22_code 10 = .ok (.aload_n 0, 1) := by decide +kernel
theorem d6_11 : decode jdk_89_method_22_code 11 = .ok (.arraylength, 1) := by decide +kernel
theorem d6_12 : decode jdk_89_method_22_code 12 = .ok (.if_icmp .le 11, 3) := by decide +kernel
theorem d6_23 : decode jdk_89_method_22_code 23 = .ok (.aload_n 0, 1) := by decide +kernel
theorem d6_24 : decode jdk_89_method_22_code 24 = .ok (.iload_n 1, 1) := by decide +kernel
theorem d6_25 : decode jdk_89_method_22_code 25 = .ok (.iload_n 2, 1) := by decide +kernel
theorem d6_26 : decode jdk_89_method_22_code 26 = .ok (.invokestatic 100, 3) := by decide +kernel
theorem d6_29 : decode jdk_89_method_22_code 29 = .ok (.ireturn, 1) := by decide +kernel
theorem ef_6 (m : MethodId) (a1 : Addr) (p2 : Int32) (p3 : Int32) : entryFrame m #[(.ref a1), (.int p2), (.int p3)] 3 = mkF m 0 #[.val (.ref a1), .val (.int p2), .val (.int p3)] [] := by first | (simp [entryFrame, mkF, argsToLocals, Value.category]; done) | rfl
def Q6 (Z : State) (a1 : Addr) (p2 : Int32) (p3 : Int32) (cl : Cell) (z cc : Int32) (h0 : Heap) (n0 : Nat) (v : Option Value) (h : Heap) (L : List Loc) : Prop := v = some (.int cc) ∧ Fr n0 L ∧ h = h0
set_option maxRecDepth 65536 in
set_option maxHeartbeats 40000000 in
theorem rm6 (l : Launch) (Z : State) (a0 : Array Value) (hw : ∀ d ∈ tables_1, d.before a0 Z = true) (ws : List Jvm.Cond) (a1 : Addr) (p2 : Int32) (p3 : Int32) (cl : Cell) (z cc : Int32) (h0 : Heap) (n0 : Nat) (Z0 : n0 ≤ h0.size) (Ar : Arr Z h0 a1 cl .char) (Sz : cl.slots.size = z.toNatClampNeg) (Mz : ¬ z < 0) (hin : ¬ (p2 < 0 ∨ cl.slots.size ≤ p2.toNatClampNeg)) (hat : cl.slots[p2.toNatClampNeg]? = some (.int cc)) (hc : ¬ (255 : Int32) < cc) (h1 : p2 < p3) (h2 : ¬ p2 < (0 : Int32)) (h3 : ¬ z < p3) :
    MetFree l (⟨"java/lang/Character", "codePointAt", "([CII)I"⟩ : MethodName) (head1 (Jvm.Cond.code (⟨"java/lang/Character", "codePointAt", "([CII)I"⟩ : MethodName) jdk_89_method_22_code 3 (some .int) :: ws) ({ frames := 2, cells := 0, slots := 0, locals := 28 } : Room)) (fun a U => a = #[(.ref a1), (.int p2), (.int p3)] ∧ Z.Warmed39 U.vm ∧ U.heap = h0) (fun _ _ _ _ _ => True) (fun _ U o U' => ∃ v L, o = .returned v ∧ Q6 Z a1 p2 p3 cl z cc h0 n0 v U'.heap L ∧ FrameEnd U o U' L ({ frames := 2, cells := 0, slots := 0, locals := 28 } : Room).cells ({ frames := 2, cells := 0, slots := 0, locals := 28 } : Room).slots) := by
  refine MetFree.of_bodySF (plainFor_of_name own_pn3) hisR ?_
  intro p e s m args below meth c s₁ Bd hml0 hP hK
  obtain ⟨rfl, hZ, hh⟩ := hP
  have hx := Bd.exec
  have hby := Bd.bytes
  have hml : c.maxLocals = 3 := hml0
  have hown : s.vm.findClass "java/lang/Character" = some m.cls := findClass_of_methodNamed Bd.named
  have hnm := (name_of_methodNamed Bd.named Bd.method).1
  have X0 : Stand p l e ({ frames := 2, cells := 0, slots := 0, locals := 28 } : Room) s m #[(.ref a1), (.int p2), (.int p3)] below meth c s₁ [] 0 0 := Stand.of_body Bd
  have e0 : s₁.heap = h0 := by rw [← hh, Bd.state]; rfl
  have N0 := Fr.nil n0
  refine own_top (Q := Q6 Z a1 p2 p3 cl z cc h0 n0) (ef_6 m a1 p2 p3) ?_
  show own_G p.tables e below s₁ (mkF m 0 #[.val (.ref a1), .val (.int p2), .val (.int p3)] []) _
  refine own_go (fun t_ k_ => XS.iloadN X0.here hx rfl (hb hby d6_0) rfl k_) ?_
  show own_G p.tables e below s₁ (mkF m 1 #[.val (.ref a1), .val (.int p2), .val (.int p3)] [(.int p2)]) _
  refine own_go (fun t_ k_ => XS.iloadN X0.here hx rfl (hb hby d6_1) rfl k_) ?_
  show own_G p.tables e below s₁ (mkF m 2 #[.val (.ref a1), .val (.int p2), .val (.int p3)] [(.int p3), (.int p2)]) _
  refine own_go (fun t_ k_ => XS.icmpNo X0.here hx rfl (hb hby d6_2) rfl (tlt h1).2.1 k_) ?_
  show own_G p.tables e below s₁ (mkF m 5 #[.val (.ref a1), .val (.int p2), .val (.int p3)] []) _
  refine own_go (fun t_ k_ => XS.iloadN X0.here hx rfl (hb hby d6_5) rfl k_) ?_
  show own_G p.tables e below s₁ (mkF m 6 #[.val (.ref a1), .val (.int p2), .val (.int p3)] [(.int p2)]) _
  refine own_go (fun t_ k_ => XS.ifNo X0.here hx rfl (hb hby d6_6) rfl ((if0 _ _).trans (flt h2).1) k_) ?_
  show own_G p.tables e below s₁ (mkF m 9 #[.val (.ref a1), .val (.int p2), .val (.int p3)] []) _
  refine own_go (fun t_ k_ => XS.iloadN X0.here hx rfl (hb hby d6_9) rfl k_) ?_
  show own_G p.tables e below s₁ (mkF m 10 #[.val (.ref a1), .val (.int p2), .val (.int p3)] [(.int p3)]) _
  refine own_go (fun t_ k_ => XS.aloadN X0.here hx rfl (hb hby d6_10) rfl rfl k_) ?_
  show own_G p.tables e below s₁ (mkF m 11 #[.val (.ref a1), .val (.int p2), .val (.int p3)] [(.ref a1), (.int p3)]) _
  refine own_go (fun t_ k_ => X0.arraylength hx (by rw [e0]; exact Ar.1) (State.isArrayOf_alike hZ.alike Ar.2.1) (g := (mkF m 11 #[.val (.ref a1), .val (.int p2), .val (.int p3)] [(.ref a1), (.int p3)])) rfl rfl (hb hby d6_11) _ k_) ?_
  show own_G p.tables e below s₁ (mkF m 12 #[.val (.ref a1), .val (.int p2), .val (.int p3)] [(.int cl.slots.size.toInt32), (.int p3)]) _
  rw [len_of Sz Mz]
  show own_G p.tables e below s₁ (mkF m 12 #[.val (.ref a1), .val (.int p2), .val (.int p3)] [(.int z), (.int p3)]) _
  refine own_go (fun t_ k_ => XS.icmpYes X0.here hx rfl (pc0 := 12) (pc' := 23) rfl (hb hby d6_12) rfl (flt h3).2.2.2 (by decide) (by decide) k_) ?_
  show own_G p.tables e below s₁ (mkF m 23 #[.val (.ref a1), .val (.int p2), .val (.int p3)] []) _
  refine own_go (fun t_ k_ => XS.aloadN X0.here hx rfl (hb hby d6_23) rfl rfl k_) ?_
  show own_G p.tables e below s₁ (mkF m 24 #[.val (.ref a1), .val (.int p2), .val (.int p3)] [(.ref a1)]) _
  refine own_go (fun t_ k_ => XS.iloadN X0.here hx rfl (hb hby d6_24) rfl k_) ?_
  show own_G p.tables e below s₁ (mkF m 25 #[.val (.ref a1), .val (.int p2), .val (.int p3)] [(.int p2), (.ref a1)]) _
  refine own_go (fun t_ k_ => XS.iloadN X0.here hx rfl (hb hby d6_25) rfl k_) ?_
  show own_G p.tables e below s₁ (mkF m 26 #[.val (.ref a1), .val (.int p2), .val (.int p3)] [(.int p3), (.int p2), (.ref a1)]) _
  obtain ⟨_, _, ⟨T1, L1, k1, n1⟩, -, X1, ⟨Lc1, hQ1, l1, y1, z1⟩, st1⟩ := Jvm.LawKit.callS X0 hx (y := (⟨"java/lang/Character", "codePointAtImpl", "([CII)I"⟩ : MethodName)) hown (mvT hZ (hw _ (List.mem_of_getElem? (i := 38) rfl))) (mvT hZ (hw _ (List.mem_of_getElem? (i := 39) rfl))) (mvT hZ (hw _ (List.mem_of_getElem? (i := 36) rfl))) (mvT hZ (hw _ (List.mem_of_getElem? (i := 40) rfl))) (by decide) (backOf (W := 0) (rm7 l Z a0 hw [] a1 p2 p3 cl z cc h0 n0 Z0 Ar Sz Mz hin hat hc) hZ (hw _ (List.mem_of_getElem? (i := 40) rfl)) (hw _ (List.mem_of_getElem? (i := 36) rfl)) (by decide) (by decide)) (g := (mkF m 26 #[.val (.ref a1), .val (.int p2), .val (.int p3)] [(.int p3), (.int p2), (.ref a1)])) rfl (by rw [hml]; rfl) (argsL := [(.ref a1), (.int p2), (.int p3)]) (rest := []) (lenOf own_pd1 rfl) rfl (by show 2 * 0 + _ ≤ _; exact Nat.le_of_eq rfl) (hb hby d6_26) (fun _ _ => ⟨rfl, e0, (by decide : 0 + 0 ≤ _), (by decide : 0 + 0 ≤ _)⟩)
  dsimp only [Pt.U, Pt.locs, Pt.cells, Pt.slots] at X1 l1 y1 z1 st1 hQ1
  subst l1 y1 z1
  obtain ⟨rfl, N1q, e1⟩ := hQ1
  have N1 := Fr.app N0 N1q
  refine own_go st1 ?_
  show own_G p.tables e below T1 (mkF m 29 #[.val (.ref a1), .val (.int p2), .val (.int p3)] [(.int cc)]) _
  exact own_end (v := some (.int cc)) X1 Bd.notSynchronized (fun h => by rw [Bd.returns] at h; cases h) (fun fs hr => retI X1 hx Bd.returns (hb hby d6_29) hr) e1 ⟨rfl, N1, rfl⟩ (by decide) (by decide)
theorem d1_0 : decode prog_145_method_1_code 0 = .ok (.aload_n 0, 1) := by decide +kernel
theorem d1_1 : decode prog_145_method_1_code 1 = .ok (.invokespecial 1, 3) := by decide +kernel
theorem d1_4 : decode prog_145_method_1_code 4 = .ok (.aload_n 0, 1) := by decide +kernel
theorem d1_5 : decode prog_145_method_1_code 5 = .ok (.bipush 8, 2) := by decide +kernel
theorem d1_7 : decode prog_145_method_1_code 7 = .ok (.newarray .int, 2) := by decide +kernel
theorem d1_9 : decode prog_145_method_1_code 9 = .ok (.putfield 7, 3) := by decide +kernel
theorem d1_12 : decode prog_145_method_1_code 12 = .ok (.aload_n 0, 1) := by decide +kernel
theorem d1_13 : decode prog_145_method_1_code 13 = .ok (.bipush 8, 2) := by decide +kernel
theorem d1_15 : decode prog_145_method_1_code 15 = .ok (.newarray .boolean, 2) := by decide +kernel
theorem d1_17 : decode prog_145_method_1_code 17 = .ok (.putfield 13, 3) := by decide +kernel
theorem d1_20 : decode prog_145_method_1_code 20 = .ok (.aload_n 0, 1) := by decide +kernel
theorem d1_21 : decode prog_145_method_1_code 21 = .ok (.bipush 8, 2) := by decide +kernel
theorem d1_23 : decode prog_145_method_1_code 23 = .ok (.newarray .int, 2) := by decide +kernel
theorem d1_25 : decode prog_145_method_1_code 25 = .ok (.putfield 17, 3) := by decide +kernel
theorem d1_28 : decode prog_145_method_1_code 28 = .ok (.return_, 1) := by decide +kernel
theorem ef_1 (m : MethodId) (a1 : Addr) : entryFrame m #[(.ref a1)] 1 = mkF m 0 #[.val (.ref a1)] [] := by first | (simp [entryFrame, mkF, argsToLocals, Value.category]; done) | rfl
def Q1 (Z : State) (a1 : Addr)  (h0 : Heap) (n0 : Nat) (v : Option Value) (h : Heap) (L : List Loc) : Prop := v = none ∧ Fr n0 L ∧ Keep h0 h [a1] ∧ Exa Z h a1 "com/example/einzug/einzug/core/TextCharacters" ∧ Fld Z h a1 "com/example/einzug/einzug/core/TextCharacters" "depth" "I" (.int (0 : Int32)) ∧ ∃ (aR aS aD : Addr) (kR kS kD : ClassId), h0.size ≤ aR ∧ h0.size ≤ aS ∧ h0.size ≤ aD ∧ n0 ≤ aR ∧ n0 ≤ aS ∧ n0 ≤ aD ∧ aR ≠ aS ∧ aR ≠ aD ∧ aS ≠ aD ∧ a1 ≠ aR ∧ a1 ≠ aS ∧ a1 ≠ aD ∧ Fld Z h a1 "com/example/einzug/einzug/core/TextCharacters" "refused" "[I" (.ref aR) ∧ Fld Z h a1 "com/example/einzug/einzug/core/TextCharacters" "started" "[Z" (.ref aS) ∧ Fld Z h a1 "com/example/einzug/einzug/core/TextCharacters" "pending" "[I" (.ref aD) ∧ Arv Z h aR kR .int (8 : Int32) [(.int (0 : Int32)), (.int (0 : Int32)), (.int (0 : Int32)), (.int (0 : Int32)), (.int (0 : Int32)), (.int (0 : Int32)), (.int (0 : Int32)), (.int (0 : Int32))] (.int (0 : Int32)) ∧ Arv Z h aS kS .boolean (8 : Int32) [(.int (0 : Int32)), (.int (0 : Int32)), (.int (0 : Int32)), (.int (0 : Int32)), (.int (0 : Int32)), (.int (0 : Int32)), (.int (0 : Int32)), (.int (0 : Int32))] (.int (0 : Int32)) ∧ Arv Z h aD kD .int (8 : Int32) [(.int (0 : Int32)), (.int (0 : Int32)), (.int (0 : Int32)), (.int (0 : Int32)), (.int (0 : Int32)), (.int (0 : Int32)), (.int (0 : Int32)), (.int (0 : Int32))] (.int (0 : Int32))
set_option maxRecDepth 65536 in
set_option maxHeartbeats 40000000 in
theorem rm1 (l : Launch) (Z : State) (a0 : Array Value) (hw : ∀ d ∈ tables_1, d.before a0 Z = true) (ws : List Jvm.Cond) (a1 : Addr)  (h0 : Heap) (n0 : Nat) (Z0 : n0 ≤ h0.size) (ge1 : n0 ≤ a1) (E1 : Exa Z h0 a1 "com/example/einzug/einzug/core/TextCharacters") (F_depth : Fld Z h0 a1 "com/example/einzug/einzug/core/TextCharacters" "depth" "I" (.int (0 : Int32))) (F_refused : Fld Z h0 a1 "com/example/einzug/einzug/core/TextCharacters" "refused" "[I" .null) (F_started : Fld Z h0 a1 "com/example/einzug/einzug/core/TextCharacters" "started" "[Z" .null) (F_pending : Fld Z h0 a1 "com/example/einzug/einzug/core/TextCharacters" "pending" "[I" .null) :
    MetFree l (⟨"com/example/einzug/einzug/core/TextCharacters", "<init>", "()V"⟩ : MethodName) (head1 (Jvm.Cond.code (⟨"com/example/einzug/einzug/core/TextCharacters", "<init>", "()V"⟩ : MethodName) prog_145_method_1_code 1 none :: ws) ({ frames := 1, cells := 3, slots := 24, locals := 12 } : Room)) (fun a U => a = #[(.ref a1)] ∧ Z.Warmed39 U.vm ∧ U.heap = h0) (fun _ _ _ _ _ => True) (fun _ U o U' => ∃ v L, o = .returned v ∧ Q1 Z a1 h0 n0 v U'.heap L ∧ FrameEnd U o U' L ({ frames := 1, cells := 3, slots := 24, locals := 12 } : Room).cells ({ frames := 1, cells := 3, slots := 24, locals := 12 } : Room).slots) := by
  refine MetFree.of_bodySF (plainFor_of_name own_pn4) hisR ?_
  intro p e s m args below meth c s₁ Bd hml0 hP hK
  obtain ⟨rfl, hZ, hh⟩ := hP
  have hx := Bd.exec
  have hby := Bd.bytes
  have hml : c.maxLocals = 1 := hml0
  have hown : s.vm.findClass "com/example/einzug/einzug/core/TextCharacters" = some m.cls := findClass_of_methodNamed Bd.named
  have hnm := (name_of_methodNamed Bd.named Bd.method).1
  have X0 : Stand p l e ({ frames := 1, cells := 3, slots := 24, locals := 12 } : Room) s m #[(.ref a1)] below meth c s₁ [] 0 0 := Stand.of_body Bd
  have e0 : s₁.heap = h0 := by rw [← hh, Bd.state]; rfl
  have N0 := Fr.nil n0
  refine own_top (Q := Q1 Z a1 h0 n0) (ef_1 m a1) ?_
  show own_G p.tables e below s₁ (mkF m 0 #[.val (.ref a1)] []) _
  refine own_go (fun t_ k_ => XS.aloadN X0.here hx rfl (hb hby d1_0) rfl rfl k_) ?_
  show own_G p.tables e below s₁ (mkF m 1 #[.val (.ref a1)] [(.ref a1)]) _
  obtain ⟨T1, X1, e1, st1⟩ := initO X0 hx hZ hown (hw _ (List.mem_of_getElem? (i := 7) rfl)) (hw _ (List.mem_of_getElem? (i := 8) rfl)) (hw _ (List.mem_of_getElem? (i := 9) rfl)) e0 (g := (mkF m 1 #[.val (.ref a1)] [(.ref a1)])) rfl (by rw [hml]; rfl) rfl (hb hby d1_1) (by decide) (W := 0) (by show 2 * 0 + _ ≤ _; exact Nat.le_of_eq rfl) (by decide)
  refine own_go st1 ?_
  show own_G p.tables e below T1 (mkF m 4 #[.val (.ref a1)] []) _
  refine own_go (fun t_ k_ => XS.aloadN X1.here hx rfl (hb hby d1_4) rfl rfl k_) ?_
  show own_G p.tables e below T1 (mkF m 5 #[.val (.ref a1)] [(.ref a1)]) _
  refine own_go (fun t_ k_ => XS.bipush X1.here hx rfl (hb hby d1_5) k_) ?_
  show own_G p.tables e below T1 (mkF m 7 #[.val (.ref a1)] [(.int (8 : Int32)), (.ref a1)]) _
  obtain ⟨T2, h2, k2, X2, e2, E2, A2, st2⟩ := newP X1 hx hZ (hw _ (List.mem_of_getElem? (i := 10) rfl)) e1 (g := (mkF m 7 #[.val (.ref a1)] [(.int (8 : Int32)), (.ref a1)])) rfl (hb hby d1_7) rfl (by decide) (cap := 8) (by decide) (by decide) (by decide) (by decide)
  obtain ⟨b2, g2⟩ : ∃ z, z = h0.size := ⟨_, rfl⟩
  rw [← g2] at A2 st2
  have ne3 : a1 ≠ b2 := Nat.ne_of_lt (Nat.lt_of_lt_of_le E1.lt (Nat.le_of_eq g2.symm))
  have ge_b2 : n0 ≤ b2 := Nat.le_trans Z0 (Nat.le_of_eq g2.symm)
  have sz_b2 : h0.size ≤ b2 := Nat.le_trans (Keep.refl h0 [a1]).1 (Nat.le_of_eq g2.symm)
  have V2 : Arv Z h2 b2 k2 .int (8 : Int32) [(.int (0 : Int32)), (.int (0 : Int32)), (.int (0 : Int32)), (.int (0 : Int32)), (.int (0 : Int32)), (.int (0 : Int32)), (.int (0 : Int32)), (.int (0 : Int32))] (.int (0 : Int32)) := (Arv.new A2 (by decide)).pad (pad_rep [] (.int (0 : Int32)) 8)
  refine own_go st2 ?_
  show own_G p.tables e below T2 (mkF m 9 #[.val (.ref a1)] [(.ref b2), (.ref a1)]) _
  have f4 : Exa Z h2 a1 "com/example/einzug/einzug/core/TextCharacters" := (E1.ext E2)
  have f5 : Fld Z h2 a1 "com/example/einzug/einzug/core/TextCharacters" "refused" "[I" .null := (F_refused.ext E2)
  obtain ⟨T6, h6, X6, e6, W6, st6⟩ := putF X2 hx hZ hown (host := "") (Or.inl (hw _ (List.mem_of_getElem? (i := 11) rfl))) Via.refl e2 f5 f4 (Or.inl (hw _ (List.mem_of_getElem? (i := 12) rfl))) (hw _ (List.mem_of_getElem? (i := 2) rfl)) (ty := (.array .int)) (by decide) rfl rfl (g := (mkF m 9 #[.val (.ref a1)] [(.ref b2), (.ref a1)])) rfl rfl (hb hby d1_9)
  have N6 := Fr.snoc X6 N0 ge1
  refine own_go st6 ?_
  show own_G p.tables e below T6 (mkF m 12 #[.val (.ref a1)] []) _
  have f7 : Fld Z h6 a1 "com/example/einzug/einzug/core/TextCharacters" "refused" "[I" (.ref b2) := f5.same W6
  refine own_go (fun t_ k_ => XS.aloadN X6.here hx rfl (hb hby d1_12) rfl rfl k_) ?_
  show own_G p.tables e below T6 (mkF m 13 #[.val (.ref a1)] [(.ref a1)]) _
  refine own_go (fun t_ k_ => XS.bipush X6.here hx rfl (hb hby d1_13) k_) ?_
  show own_G p.tables e below T6 (mkF m 15 #[.val (.ref a1)] [(.int (8 : Int32)), (.ref a1)]) _
  obtain ⟨T8, h8, k8, X8, e8, E8, A8, st8⟩ := newP X6 hx hZ (hw _ (List.mem_of_getElem? (i := 13) rfl)) e6 (g := (mkF m 15 #[.val (.ref a1)] [(.int (8 : Int32)), (.ref a1)])) rfl (hb hby d1_15) rfl (by decide) (cap := 8) (by decide) (by decide) (by decide) (by decide)
  obtain ⟨b8, g8⟩ : ∃ z, z = h6.size := ⟨_, rfl⟩
  rw [← g8] at A8 st8
  have f9 : Exa Z h6 a1 "com/example/einzug/einzug/core/TextCharacters" := (f4.wr W6)
  have ne10 : a1 ≠ b8 := Nat.ne_of_lt (Nat.lt_of_lt_of_le f9.lt (Nat.le_of_eq g8.symm))
  have f11 : Arv Z h6 b2 k2 .int (8 : Int32) [(.int (0 : Int32)), (.int (0 : Int32)), (.int (0 : Int32)), (.int (0 : Int32)), (.int (0 : Int32)), (.int (0 : Int32)), (.int (0 : Int32)), (.int (0 : Int32))] (.int (0 : Int32)) := (V2.other W6 (Ne.symm ne3))
  have ne12 : b2 ≠ b8 := Nat.ne_of_lt (Nat.lt_of_lt_of_le f11.lt (Nat.le_of_eq g8.symm))
  have f13 : n0 ≤ h6.size := (Nat.le_trans (Nat.le_trans Z0 E2.1) (Keep.of_wr W6).1)
  have ge_b8 : n0 ≤ b8 := Nat.le_trans f13 (Nat.le_of_eq g8.symm)
  have f14 : Keep h0 h6 [a1] := (((Keep.refl h0 [a1]).ext E2).wr W6 (Or.inl (List.mem_of_getElem? (i := 0) rfl)))
  have sz_b8 : h0.size ≤ b8 := Nat.le_trans f14.1 (Nat.le_of_eq g8.symm)
  have V8 : Arv Z h8 b8 k8 .boolean (8 : Int32) [(.int (0 : Int32)), (.int (0 : Int32)), (.int (0 : Int32)), (.int (0 : Int32)), (.int (0 : Int32)), (.int (0 : Int32)), (.int (0 : Int32)), (.int (0 : Int32))] (.int (0 : Int32)) := (Arv.new A8 (by decide)).pad (pad_rep [] (.int (0 : Int32)) 8)
  refine own_go st8 ?_
  show own_G p.tables e below T8 (mkF m 17 #[.val (.ref a1)] [(.ref b8), (.ref a1)]) _
  have f15 : Exa Z h8 a1 "com/example/einzug/einzug/core/TextCharacters" := (f9.ext E8)
  have f16 : Fld Z h8 a1 "com/example/einzug/einzug/core/TextCharacters" "started" "[Z" .null := (((F_started.ext E2).other W6 (Or.inr (slot_ne (Or.inl (hw _ (List.mem_of_getElem? (i := 15) rfl))) (Or.inl (hw _ (List.mem_of_getElem? (i := 12) rfl))) (by decide) (t := (.array .boolean)) (t' := (.array .int)) (by decide) (by decide)))).ext E8)
  obtain ⟨T17, h17, X17, e17, W17, st17⟩ := putF X8 hx hZ hown (host := "") (Or.inl (hw _ (List.mem_of_getElem? (i := 14) rfl))) Via.refl e8 f16 f15 (Or.inl (hw _ (List.mem_of_getElem? (i := 15) rfl))) (hw _ (List.mem_of_getElem? (i := 2) rfl)) (ty := (.array .boolean)) (by decide) rfl rfl (g := (mkF m 17 #[.val (.ref a1)] [(.ref b8), (.ref a1)])) rfl rfl (hb hby d1_17)
  have N17 := Fr.snoc X17 N6 ge1
  refine own_go st17 ?_
  show own_G p.tables e below T17 (mkF m 20 #[.val (.ref a1)] []) _
  have f18 : Fld Z h17 a1 "com/example/einzug/einzug/core/TextCharacters" "started" "[Z" (.ref b8) := f16.same W17
  refine own_go (fun t_ k_ => XS.aloadN X17.here hx rfl (hb hby d1_20) rfl rfl k_) ?_
  show own_G p.tables e below T17 (mkF m 21 #[.val (.ref a1)] [(.ref a1)]) _
  refine own_go (fun t_ k_ => XS.bipush X17.here hx rfl (hb hby d1_21) k_) ?_
  show own_G p.tables e below T17 (mkF m 23 #[.val (.ref a1)] [(.int (8 : Int32)), (.ref a1)]) _
  obtain ⟨T19, h19, k19, X19, e19, E19, A19, st19⟩ := newP X17 hx hZ (hw _ (List.mem_of_getElem? (i := 10) rfl)) e17 (g := (mkF m 23 #[.val (.ref a1)] [(.int (8 : Int32)), (.ref a1)])) rfl (hb hby d1_23) rfl (by decide) (cap := 8) (by decide) (by decide) (by decide) (by decide)
  obtain ⟨b19, g19⟩ : ∃ z, z = h17.size := ⟨_, rfl⟩
  rw [← g19] at A19 st19
  have f20 : Exa Z h17 a1 "com/example/einzug/einzug/core/TextCharacters" := (f15.wr W17)
  have ne21 : a1 ≠ b19 := Nat.ne_of_lt (Nat.lt_of_lt_of_le f20.lt (Nat.le_of_eq g19.symm))
  have f22 : Arv Z h17 b2 k2 .int (8 : Int32) [(.int (0 : Int32)), (.int (0 : Int32)), (.int (0 : Int32)), (.int (0 : Int32)), (.int (0 : Int32)), (.int (0 : Int32)), (.int (0 : Int32)), (.int (0 : Int32))] (.int (0 : Int32)) := ((f11.ext E8).other W17 (Ne.symm ne3))
  have ne23 : b2 ≠ b19 := Nat.ne_of_lt (Nat.lt_of_lt_of_le f22.lt (Nat.le_of_eq g19.symm))
  have f24 : Arv Z h17 b8 k8 .boolean (8 : Int32) [(.int (0 : Int32)), (.int (0 : Int32)), (.int (0 : Int32)), (.int (0 : Int32)), (.int (0 : Int32)), (.int (0 : Int32)), (.int (0 : Int32)), (.int (0 : Int32))] (.int (0 : Int32)) := (V8.other W17 (Ne.symm ne10))
  have ne25 : b8 ≠ b19 := Nat.ne_of_lt (Nat.lt_of_lt_of_le f24.lt (Nat.le_of_eq g19.symm))
  have f26 : n0 ≤ h17.size := (Nat.le_trans (Nat.le_trans f13 E8.1) (Keep.of_wr W17).1)
  have ge_b19 : n0 ≤ b19 := Nat.le_trans f26 (Nat.le_of_eq g19.symm)
  have f27 : Keep h0 h17 [a1] := ((f14.ext E8).wr W17 (Or.inl (List.mem_of_getElem? (i := 0) rfl)))
  have sz_b19 : h0.size ≤ b19 := Nat.le_trans f27.1 (Nat.le_of_eq g19.symm)
  have V19 : Arv Z h19 b19 k19 .int (8 : Int32) [(.int (0 : Int32)), (.int (0 : Int32)), (.int (0 : Int32)), (.int (0 : Int32)), (.int (0 : Int32)), (.int (0 : Int32)), (.int (0 : Int32)), (.int (0 : Int32))] (.int (0 : Int32)) := (Arv.new A19 (by decide)).pad (pad_rep [] (.int (0 : Int32)) 8)
  refine own_go st19 ?_
  show own_G p.tables e below T19 (mkF m 25 #[.val (.ref a1)] [(.ref b19), (.ref a1)]) _
  have f28 : Exa Z h19 a1 "com/example/einzug/einzug/core/TextCharacters" := (f20.ext E19)
  have f29 : Fld Z h19 a1 "com/example/einzug/einzug/core/TextCharacters" "pending" "[I" .null := (((((F_pending.ext E2).other W6 (Or.inr (slot_ne (Or.inl (hw _ (List.mem_of_getElem? (i := 17) rfl))) (Or.inl (hw _ (List.mem_of_getElem? (i := 12) rfl))) (by decide) (t := (.array .int)) (t' := (.array .int)) (by decide) (by decide)))).ext E8).other W17 (Or.inr (slot_ne (Or.inl (hw _ (List.mem_of_getElem? (i := 17) rfl))) (Or.inl (hw _ (List.mem_of_getElem? (i := 15) rfl))) (by decide) (t := (.array .int)) (t' := (.array .boolean)) (by decide) (by decide)))).ext E19)
  obtain ⟨T30, h30, X30, e30, W30, st30⟩ := putF X19 hx hZ hown (host := "") (Or.inl (hw _ (List.mem_of_getElem? (i := 16) rfl))) Via.refl e19 f29 f28 (Or.inl (hw _ (List.mem_of_getElem? (i := 17) rfl))) (hw _ (List.mem_of_getElem? (i := 2) rfl)) (ty := (.array .int)) (by decide) rfl rfl (g := (mkF m 25 #[.val (.ref a1)] [(.ref b19), (.ref a1)])) rfl rfl (hb hby d1_25)
  have N30 := Fr.snoc X30 N17 ge1
  refine own_go st30 ?_
  show own_G p.tables e below T30 (mkF m 28 #[.val (.ref a1)] []) _
  have f31 : Fld Z h30 a1 "com/example/einzug/einzug/core/TextCharacters" "pending" "[I" (.ref b19) := f29.same W30
  have f32 : Keep h0 h30 [a1] := ((f27.ext E19).wr W30 (Or.inl (List.mem_of_getElem? (i := 0) rfl)))
  have f33 : Exa Z h30 a1 "com/example/einzug/einzug/core/TextCharacters" := (f28.wr W30)
  have f34 : Fld Z h30 a1 "com/example/einzug/einzug/core/TextCharacters" "depth" "I" (.int (0 : Int32)) := ((((((F_depth.ext E2).other W6 (Or.inr (slot_ne (Or.inl (hw _ (List.mem_of_getElem? (i := 24) rfl))) (Or.inl (hw _ (List.mem_of_getElem? (i := 12) rfl))) (by decide) (t := .int) (t' := (.array .int)) (by decide) (by decide)))).ext E8).other W17 (Or.inr (slot_ne (Or.inl (hw _ (List.mem_of_getElem? (i := 24) rfl))) (Or.inl (hw _ (List.mem_of_getElem? (i := 15) rfl))) (by decide) (t := .int) (t' := (.array .boolean)) (by decide) (by decide)))).ext E19).other W30 (Or.inr (slot_ne (Or.inl (hw _ (List.mem_of_getElem? (i := 24) rfl))) (Or.inl (hw _ (List.mem_of_getElem? (i := 17) rfl))) (by decide) (t := .int) (t' := (.array .int)) (by decide) (by decide))))
  have f35 : Fld Z h30 a1 "com/example/einzug/einzug/core/TextCharacters" "refused" "[I" (.ref b2) := ((((f7.ext E8).other W17 (Or.inr (slot_ne (Or.inl (hw _ (List.mem_of_getElem? (i := 12) rfl))) (Or.inl (hw _ (List.mem_of_getElem? (i := 15) rfl))) (by decide) (t := (.array .int)) (t' := (.array .boolean)) (by decide) (by decide)))).ext E19).other W30 (Or.inr (slot_ne (Or.inl (hw _ (List.mem_of_getElem? (i := 12) rfl))) (Or.inl (hw _ (List.mem_of_getElem? (i := 17) rfl))) (by decide) (t := (.array .int)) (t' := (.array .int)) (by decide) (by decide))))
  have f36 : Fld Z h30 a1 "com/example/einzug/einzug/core/TextCharacters" "started" "[Z" (.ref b8) := ((f18.ext E19).other W30 (Or.inr (slot_ne (Or.inl (hw _ (List.mem_of_getElem? (i := 15) rfl))) (Or.inl (hw _ (List.mem_of_getElem? (i := 17) rfl))) (by decide) (t := (.array .boolean)) (t' := (.array .int)) (by decide) (by decide))))
  have f37 : Arv Z h30 b2 k2 .int (8 : Int32) [(.int (0 : Int32)), (.int (0 : Int32)), (.int (0 : Int32)), (.int (0 : Int32)), (.int (0 : Int32)), (.int (0 : Int32)), (.int (0 : Int32)), (.int (0 : Int32))] (.int (0 : Int32)) := ((f22.ext E19).other W30 (Ne.symm ne3))
  have f38 : Arv Z h30 b8 k8 .boolean (8 : Int32) [(.int (0 : Int32)), (.int (0 : Int32)), (.int (0 : Int32)), (.int (0 : Int32)), (.int (0 : Int32)), (.int (0 : Int32)), (.int (0 : Int32)), (.int (0 : Int32))] (.int (0 : Int32)) := ((f24.ext E19).other W30 (Ne.symm ne10))
  have f39 : Arv Z h30 b19 k19 .int (8 : Int32) [(.int (0 : Int32)), (.int (0 : Int32)), (.int (0 : Int32)), (.int (0 : Int32)), (.int (0 : Int32)), (.int (0 : Int32)), (.int (0 : Int32)), (.int (0 : Int32))] (.int (0 : Int32)) := (V19.other W30 (Ne.symm ne21))
  exact own_end (v := none) X30 Bd.notSynchronized (fun _ => rfl) (fun fs hr => X30.returnOut hx Bd.returns (hb hby d1_28) hr) e30 ⟨rfl, N30, f32, f33, f34, _, _, _, _, _, _, sz_b2, sz_b8, sz_b19, ge_b2, ge_b8, ge_b19, ne12, ne23, ne25, ne3, ne10, ne21, f35, f36, f31, f37, f38, f39⟩ (by decide) (by decide)
theorem d3_0 : decode prog_145_method_2_code 0 = .ok (.aload_n 0, 1) := by decide +kernel
theorem d3_1 : decode prog_145_method_2_code 1 = .ok (.getfield 20, 3) := by decide +kernel
theorem d3_4 : decode prog_145_method_2_code 4 = .ok (.aload_n 0, 1) := by decide +kernel
theorem d3_5 : decode prog_145_method_2_code 5 = .ok (.getfield 7, 3) := by decide +kernel
theorem d3_8 : decode prog_145_method_2_code 8 = .ok (.arraylength, 1) := by decide +kernel
theorem d3_9 : decode prog_145_method_2_code 9 = .ok (.if_icmp .ne 54, 3) := by decide +kernel
theorem d3_63 : decode prog_145_method_2_code 63 = .ok (.aload_n 0, 1) := by decide +kernel
theorem d3_64 : decode prog_145_method_2_code 64 = .ok (.getfield 7, 3) := by decide +kernel
theorem d3_67 : decode prog_145_method_2_code 67 = .ok (.aload_n 0, 1) := by decide +kernel
theorem d3_68 : decode prog_145_method_2_code 68 = .ok (.getfield 20, 3) := by decide +kernel
theorem d3_71 : decode prog_145_method_2_code 71 = .ok (.iconst (-1), 1) := by decide +kernel
theorem d3_72 : decode prog_145_method_2_code 72 = .ok (.iastore, 1) := by decide +kernel
theorem d3_73 : decode prog_145_method_2_code 73 = .ok (.aload_n 0, 1) := by decide +kernel
theorem d3_74 : decode prog_145_method_2_code 74 = .ok (.getfield 13, 3) := by decide +kernel
theorem d3_77 : decode prog_145_method_2_code 77 = .ok (.aload_n 0, 1) := by decide +kernel
theorem d3_78 : decode prog_145_method_2_code 78 = .ok (.getfield 20, 3) := by decide +kernel
theorem d3_81 : decode prog_145_method_2_code 81 = .ok (.iconst 0, 1) := by decide +kernel
theorem d3_82 : decode prog_145_method_2_code 82 = .ok (.bastore, 1) := by decide +kernel
theorem d3_83 : decode prog_145_method_2_code 83 = .ok (.aload_n 0, 1) := by decide +kernel
theorem d3_84 : decode prog_145_method_2_code 84 = .ok (.getfield 17, 3) := by decide +kernel
theorem d3_87 : decode prog_145_method_2_code 87 = .ok (.aload_n 0, 1) := by decide +kernel
theorem d3_88 : decode prog_145_method_2_code 88 = .ok (.getfield 20, 3) := by decide +kernel
theorem d3_91 : decode prog_145_method_2_code 91 = .ok (.iconst (-1), 1) := by decide +kernel
theorem d3_92 : decode prog_145_method_2_code 92 = .ok (.iastore, 1) := by decide +kernel
theorem d3_93 : decode prog_145_method_2_code 93 = .ok (.aload_n 0, 1) := by decide +kernel
theorem d3_94 : decode prog_145_method_2_code 94 = .ok (.dup, 1) := by decide +kernel
theorem d3_95 : decode prog_145_method_2_code 95 = .ok (.getfield 20, 3) := by decide +kernel
theorem d3_98 : decode prog_145_method_2_code 98 = .ok (.iconst 1, 1) := by decide +kernel
theorem d3_99 : decode prog_145_method_2_code 99 = .ok (.iadd, 1) := by decide +kernel
theorem d3_100 : decode prog_145_method_2_code 100 = .ok (.putfield 20, 3) := by decide +kernel
theorem d3_103 : decode prog_145_method_2_code 103 = .ok (.return_, 1) := by decide +kernel
theorem ef_3d0 (m : MethodId) (a1 : Addr) : entryFrame m #[(.ref a1)] 1 = mkF m 0 #[.val (.ref a1)] [] := by first | (simp [entryFrame, mkF, argsToLocals, Value.category]; done) | rfl
def Q3d0 (Z : State) (a1 : Addr) (aR aS aD : Addr) (kR kS kD : ClassId) (R0 R1 S0 S1 D0 D1 : Int32) (h0 : Heap) (n0 : Nat) (v : Option Value) (h : Heap) (L : List Loc) : Prop := v = none ∧ Fr n0 L ∧ Keep h0 h [a1, aR, aS, aD] ∧ Exa Z h a1 "com/example/einzug/einzug/core/TextCharacters" ∧ Fld Z h a1 "com/example/einzug/einzug/core/TextCharacters" "depth" "I" (.int (1 : Int32)) ∧ Fld Z h a1 "com/example/einzug/einzug/core/TextCharacters" "refused" "[I" (.ref aR) ∧ Fld Z h a1 "com/example/einzug/einzug/core/TextCharacters" "started" "[Z" (.ref aS) ∧ Fld Z h a1 "com/example/einzug/einzug/core/TextCharacters" "pending" "[I" (.ref aD) ∧ Arv Z h aR kR .int (8 : Int32) [(.int (-1 : Int32)), (.int R1), (.int (0 : Int32)), (.int (0 : Int32)), (.int (0 : Int32)), (.int (0 : Int32)), (.int (0 : Int32)), (.int (0 : Int32))] (.int (0 : Int32)) ∧ Arv Z h aS kS .boolean (8 : Int32) [(.int (0 : Int32)), (.int S1), (.int (0 : Int32)), (.int (0 : Int32)), (.int (0 : Int32)), (.int (0 : Int32)), (.int (0 : Int32)), (.int (0 : Int32))] (.int (0 : Int32)) ∧ Arv Z h aD kD .int (8 : Int32) [(.int (-1 : Int32)), (.int D1), (.int (0 : Int32)), (.int (0 : Int32)), (.int (0 : Int32)), (.int (0 : Int32)), (.int (0 : Int32)), (.int (0 : Int32))] (.int (0 : Int32))
set_option maxRecDepth 65536 in
set_option maxHeartbeats 40000000 in
theorem rm3d0 (l : Launch) (Z : State) (a0 : Array Value) (hw : ∀ d ∈ tables_1, d.before a0 Z = true) (ws : List Jvm.Cond) (a1 : Addr) (aR aS aD : Addr) (kR kS kD : ClassId) (R0 R1 S0 S1 D0 D1 : Int32) (h0 : Heap) (n0 : Nat) (Z0 : n0 ≤ h0.size) (ge1 : n0 ≤ a1) (E1 : Exa Z h0 a1 "com/example/einzug/einzug/core/TextCharacters") (F_depth : Fld Z h0 a1 "com/example/einzug/einzug/core/TextCharacters" "depth" "I" (.int (0 : Int32))) (F_refused : Fld Z h0 a1 "com/example/einzug/einzug/core/TextCharacters" "refused" "[I" (.ref aR)) (F_started : Fld Z h0 a1 "com/example/einzug/einzug/core/TextCharacters" "started" "[Z" (.ref aS)) (F_pending : Fld Z h0 a1 "com/example/einzug/einzug/core/TextCharacters" "pending" "[I" (.ref aD)) (V_refused : Arv Z h0 aR kR .int (8 : Int32) [(.int R0), (.int R1), (.int (0 : Int32)), (.int (0 : Int32)), (.int (0 : Int32)), (.int (0 : Int32)), (.int (0 : Int32)), (.int (0 : Int32))] (.int (0 : Int32))) (V_started : Arv Z h0 aS kS .boolean (8 : Int32) [(.int S0), (.int S1), (.int (0 : Int32)), (.int (0 : Int32)), (.int (0 : Int32)), (.int (0 : Int32)), (.int (0 : Int32)), (.int (0 : Int32))] (.int (0 : Int32))) (V_pending : Arv Z h0 aD kD .int (8 : Int32) [(.int D0), (.int D1), (.int (0 : Int32)), (.int (0 : Int32)), (.int (0 : Int32)), (.int (0 : Int32)), (.int (0 : Int32)), (.int (0 : Int32))] (.int (0 : Int32))) (nRS : aR ≠ aS) (nRD : aR ≠ aD) (nSD : aS ≠ aD) (n1R : a1 ≠ aR) (n1S : a1 ≠ aS) (n1D : a1 ≠ aD) (geR : n0 ≤ aR) (geS : n0 ≤ aS) (geD : n0 ≤ aD) :
    MetFree l (⟨"com/example/einzug/einzug/core/TextCharacters", "open", "()V"⟩ : MethodName) (head1 (Jvm.Cond.code (⟨"com/example/einzug/einzug/core/TextCharacters", "open", "()V"⟩ : MethodName) prog_145_method_2_code 1 none :: ws) ({ frames := 0, cells := 0, slots := 0, locals := 0 } : Room)) (fun a U => a = #[(.ref a1)] ∧ Z.Warmed39 U.vm ∧ U.heap = h0) (fun _ _ _ _ _ => True) (fun _ U o U' => ∃ v L, o = .returned v ∧ Q3d0 Z a1 aR aS aD kR kS kD R0 R1 S0 S1 D0 D1 h0 n0 v U'.heap L ∧ FrameEnd U o U' L ({ frames := 0, cells := 0, slots := 0, locals := 0 } : Room).cells ({ frames := 0, cells := 0, slots := 0, locals := 0 } : Room).slots) := by
  refine MetFree.of_bodySF (plainFor_of_name own_pn4) hisR ?_
  intro p e s m args below meth c s₁ Bd hml0 hP hK
  obtain ⟨rfl, hZ, hh⟩ := hP
  have hx := Bd.exec
  have hby := Bd.bytes
  have hml : c.maxLocals = 1 := hml0
  have hown : s.vm.findClass "com/example/einzug/einzug/core/TextCharacters" = some m.cls := findClass_of_methodNamed Bd.named
  have hnm := (name_of_methodNamed Bd.named Bd.method).1
  have X0 : Stand p l e ({ frames := 0, cells := 0, slots := 0, locals := 0 } : Room) s m #[(.ref a1)] below meth c s₁ [] 0 0 := Stand.of_body Bd
  have e0 : s₁.heap = h0 := by rw [← hh, Bd.state]; rfl
  have N0 := Fr.nil n0
  refine own_top (Q := Q3d0 Z a1 aR aS aD kR kS kD R0 R1 S0 S1 D0 D1 h0 n0) (ef_3d0 m a1) ?_
  show own_G p.tables e below s₁ (mkF m 0 #[.val (.ref a1)] []) _
  refine own_go (fun t_ k_ => XS.aloadN X0.here hx rfl (hb hby d3_0) rfl rfl k_) ?_
  show own_G p.tables e below s₁ (mkF m 1 #[.val (.ref a1)] [(.ref a1)]) _
  obtain ⟨T1, X1, e1, st1⟩ := getF X0 hx hZ hown (host := "") (Or.inl (hw _ (List.mem_of_getElem? (i := 23) rfl))) Via.refl e0 F_depth (g := (mkF m 1 #[.val (.ref a1)] [(.ref a1)])) rfl rfl (hb hby d3_1)
  refine own_go st1 ?_
  show own_G p.tables e below T1 (mkF m 4 #[.val (.ref a1)] [(.int (0 : Int32))]) _
  refine own_go (fun t_ k_ => XS.aloadN X1.here hx rfl (hb hby d3_4) rfl rfl k_) ?_
  show own_G p.tables e below T1 (mkF m 5 #[.val (.ref a1)] [(.ref a1), (.int (0 : Int32))]) _
  obtain ⟨T2, X2, e2, st2⟩ := getF X1 hx hZ hown (host := "") (Or.inl (hw _ (List.mem_of_getElem? (i := 11) rfl))) Via.refl e1 F_refused (g := (mkF m 5 #[.val (.ref a1)] [(.ref a1), (.int (0 : Int32))])) rfl rfl (hb hby d3_5)
  refine own_go st2 ?_
  show own_G p.tables e below T2 (mkF m 8 #[.val (.ref a1)] [(.ref aR), (.int (0 : Int32))]) _
  obtain ⟨cl3, Ar3, -, S3, M3, H3, -⟩ := id V_refused
  refine own_go (fun t_ k_ => X2.arraylength hx (by rw [e2]; exact Ar3.1) (State.isArrayOf_alike hZ.alike Ar3.2.1) (g := (mkF m 8 #[.val (.ref a1)] [(.ref aR), (.int (0 : Int32))])) rfl rfl (hb hby d3_8) _ k_) ?_
  show own_G p.tables e below T2 (mkF m 9 #[.val (.ref a1)] [(.int cl3.slots.size.toInt32), (.int (0 : Int32))]) _
  rw [len_of S3 M3]
  show own_G p.tables e below T2 (mkF m 9 #[.val (.ref a1)] [(.int (8 : Int32)), (.int (0 : Int32))]) _
  refine own_go (fun t_ k_ => XS.icmpYes X2.here hx rfl (pc0 := 9) (pc' := 63) rfl (hb hby d3_9) rfl (feq (by decide : ¬ ((0 : Int32) = (8 : Int32)))).2 (by decide) (by decide) k_) ?_
  show own_G p.tables e below T2 (mkF m 63 #[.val (.ref a1)] []) _
  refine own_go (fun t_ k_ => XS.aloadN X2.here hx rfl (hb hby d3_63) rfl rfl k_) ?_
  show own_G p.tables e below T2 (mkF m 64 #[.val (.ref a1)] [(.ref a1)]) _
  obtain ⟨T4, X4, e4, st4⟩ := getF X2 hx hZ hown (host := "") (Or.inl (hw _ (List.mem_of_getElem? (i := 11) rfl))) Via.refl e2 F_refused (g := (mkF m 64 #[.val (.ref a1)] [(.ref a1)])) rfl rfl (hb hby d3_64)
  refine own_go st4 ?_
  show own_G p.tables e below T4 (mkF m 67 #[.val (.ref a1)] [(.ref aR)]) _
  refine own_go (fun t_ k_ => XS.aloadN X4.here hx rfl (hb hby d3_67) rfl rfl k_) ?_
  show own_G p.tables e below T4 (mkF m 68 #[.val (.ref a1)] [(.ref a1), (.ref aR)]) _
  obtain ⟨T5, X5, e5, st5⟩ := getF X4 hx hZ hown (host := "") (Or.inl (hw _ (List.mem_of_getElem? (i := 23) rfl))) Via.refl e4 F_depth (g := (mkF m 68 #[.val (.ref a1)] [(.ref a1), (.ref aR)])) rfl rfl (hb hby d3_68)
  refine own_go st5 ?_
  show own_G p.tables e below T5 (mkF m 71 #[.val (.ref a1)] [(.int (0 : Int32)), (.ref aR)]) _
  refine own_go (fun t_ k_ => XS.iconst X5.here hx rfl (hb hby d3_71) k_) ?_
  show own_G p.tables e below T5 (mkF m 72 #[.val (.ref a1)] [(.int (-1 : Int32)), (.int (0 : Int32)), (.ref aR)]) _
  obtain ⟨cl6, Ar6, q6, S6, M6, H6, G6⟩ := id V_refused
  have hin6 : ¬ ((0 : Int32) < 0 ∨ cl6.slots.size ≤ ((0 : Int32)).toNatClampNeg) := inb_of S6 ⟨by decide, by decide⟩
  obtain ⟨T6, h6, X6, e6, W6, st6⟩ := stI X5 hx hZ e5 Ar6 (j := (0 : Int32)) hin6 (g := (mkF m 72 #[.val (.ref a1)] [(.int (-1 : Int32)), (.int (0 : Int32)), (.ref aR)])) rfl rfl (hb hby d3_72)
  have N6 := Fr.snoc X6 N0 geR
  have V6 : Arv Z h6 aR kR .int (8 : Int32) [(.int (-1 : Int32)), (.int R1), (.int (0 : Int32)), (.int (0 : Int32)), (.int (0 : Int32)), (.int (0 : Int32)), (.int (0 : Int32)), (.int (0 : Int32))] (.int (0 : Int32)) := by
    have q := Arv.set Ar6 q6 S6 M6 H6 G6 rfl W6 0 rfl (Nat.le_of_ble_eq_true rfl)
    exact q
  refine own_go st6 ?_
  show own_G p.tables e below T6 (mkF m 73 #[.val (.ref a1)] []) _
  refine own_go (fun t_ k_ => XS.aloadN X6.here hx rfl (hb hby d3_73) rfl rfl k_) ?_
  show own_G p.tables e below T6 (mkF m 74 #[.val (.ref a1)] [(.ref a1)]) _
  have f7 : Fld Z h6 a1 "com/example/einzug/einzug/core/TextCharacters" "started" "[Z" (.ref aS) := (F_started.other W6 (Or.inl n1R))
  obtain ⟨T8, X8, e8, st8⟩ := getF X6 hx hZ hown (host := "") (Or.inl (hw _ (List.mem_of_getElem? (i := 14) rfl))) Via.refl e6 f7 (g := (mkF m 74 #[.val (.ref a1)] [(.ref a1)])) rfl rfl (hb hby d3_74)
  refine own_go st8 ?_
  show own_G p.tables e below T8 (mkF m 77 #[.val (.ref a1)] [(.ref aS)]) _
  refine own_go (fun t_ k_ => XS.aloadN X8.here hx rfl (hb hby d3_77) rfl rfl k_) ?_
  show own_G p.tables e below T8 (mkF m 78 #[.val (.ref a1)] [(.ref a1), (.ref aS)]) _
  have f9 : Fld Z h6 a1 "com/example/einzug/einzug/core/TextCharacters" "depth" "I" (.int (0 : Int32)) := (F_depth.other W6 (Or.inl n1R))
  obtain ⟨T10, X10, e10, st10⟩ := getF X8 hx hZ hown (host := "") (Or.inl (hw _ (List.mem_of_getElem? (i := 23) rfl))) Via.refl e8 f9 (g := (mkF m 78 #[.val (.ref a1)] [(.ref a1), (.ref aS)])) rfl rfl (hb hby d3_78)
  refine own_go st10 ?_
  show own_G p.tables e below T10 (mkF m 81 #[.val (.ref a1)] [(.int (0 : Int32)), (.ref aS)]) _
  refine own_go (fun t_ k_ => XS.iconst X10.here hx rfl (hb hby d3_81) k_) ?_
  show own_G p.tables e below T10 (mkF m 82 #[.val (.ref a1)] [(.int (0 : Int32)), (.int (0 : Int32)), (.ref aS)]) _
  have f11 : Arv Z h6 aS kS .boolean (8 : Int32) [(.int S0), (.int S1), (.int (0 : Int32)), (.int (0 : Int32)), (.int (0 : Int32)), (.int (0 : Int32)), (.int (0 : Int32)), (.int (0 : Int32))] (.int (0 : Int32)) := (V_started.other W6 (Ne.symm nRS))
  obtain ⟨cl12, Ar12, q12, S12, M12, H12, G12⟩ := id f11
  have hin12 : ¬ ((0 : Int32) < 0 ∨ cl12.slots.size ≤ ((0 : Int32)).toNatClampNeg) := inb_of S12 ⟨by decide, by decide⟩
  obtain ⟨T12, h12, X12, e12, W12, st12⟩ := stZ X10 hx hZ e10 Ar12 (j := (0 : Int32)) hin12 (g := (mkF m 82 #[.val (.ref a1)] [(.int (0 : Int32)), (.int (0 : Int32)), (.ref aS)])) rfl rfl (hb hby d3_82)
  have N12 := Fr.snoc X12 N6 geS
  have V12 : Arv Z h12 aS kS .boolean (8 : Int32) [(.int (0 : Int32)), (.int S1), (.int (0 : Int32)), (.int (0 : Int32)), (.int (0 : Int32)), (.int (0 : Int32)), (.int (0 : Int32)), (.int (0 : Int32))] (.int (0 : Int32)) := by
    have q := Arv.set Ar12 q12 S12 M12 H12 G12 (fits_nar_bool _) W12 0 rfl (Nat.le_of_ble_eq_true rfl)
    exact q
  refine own_go st12 ?_
  show own_G p.tables e below T12 (mkF m 83 #[.val (.ref a1)] []) _
  refine own_go (fun t_ k_ => XS.aloadN X12.here hx rfl (hb hby d3_83) rfl rfl k_) ?_
  show own_G p.tables e below T12 (mkF m 84 #[.val (.ref a1)] [(.ref a1)]) _
  have f13 : Fld Z h12 a1 "com/example/einzug/einzug/core/TextCharacters" "pending" "[I" (.ref aD) := ((F_pending.other W6 (Or.inl n1R)).other W12 (Or.inl n1S))
  obtain ⟨T14, X14, e14, st14⟩ := getF X12 hx hZ hown (host := "") (Or.inl (hw _ (List.mem_of_getElem? (i := 16) rfl))) Via.refl e12 f13 (g := (mkF m 84 #[.val (.ref a1)] [(.ref a1)])) rfl rfl (hb hby d3_84)
  refine own_go st14 ?_
  show own_G p.tables e below T14 (mkF m 87 #[.val (.ref a1)] [(.ref aD)]) _
  refine own_go (fun t_ k_ => XS.aloadN X14.here hx rfl (hb hby d3_87) rfl rfl k_) ?_
  show own_G p.tables e below T14 (mkF m 88 #[.val (.ref a1)] [(.ref a1), (.ref aD)]) _
  have f15 : Fld Z h12 a1 "com/example/einzug/einzug/core/TextCharacters" "depth" "I" (.int (0 : Int32)) := (f9.other W12 (Or.inl n1S))
  obtain ⟨T16, X16, e16, st16⟩ := getF X14 hx hZ hown (host := "") (Or.inl (hw _ (List.mem_of_getElem? (i := 23) rfl))) Via.refl e14 f15 (g := (mkF m 88 #[.val (.ref a1)] [(.ref a1), (.ref aD)])) rfl rfl (hb hby d3_88)
  refine own_go st16 ?_
  show own_G p.tables e below T16 (mkF m 91 #[.val (.ref a1)] [(.int (0 : Int32)), (.ref aD)]) _
  refine own_go (fun t_ k_ => XS.iconst X16.here hx rfl (hb hby d3_91) k_) ?_
  show own_G p.tables e below T16 (mkF m 92 #[.val (.ref a1)] [(.int (-1 : Int32)), (.int (0 : Int32)), (.ref aD)]) _
  have f17 : Arv Z h12 aD kD .int (8 : Int32) [(.int D0), (.int D1), (.int (0 : Int32)), (.int (0 : Int32)), (.int (0 : Int32)), (.int (0 : Int32)), (.int (0 : Int32)), (.int (0 : Int32))] (.int (0 : Int32)) := ((V_pending.other W6 (Ne.symm nRD)).other W12 (Ne.symm nSD))
  obtain ⟨cl18, Ar18, q18, S18, M18, H18, G18⟩ := id f17
  have hin18 : ¬ ((0 : Int32) < 0 ∨ cl18.slots.size ≤ ((0 : Int32)).toNatClampNeg) := inb_of S18 ⟨by decide, by decide⟩
  obtain ⟨T18, h18, X18, e18, W18, st18⟩ := stI X16 hx hZ e16 Ar18 (j := (0 : Int32)) hin18 (g := (mkF m 92 #[.val (.ref a1)] [(.int (-1 : Int32)), (.int (0 : Int32)), (.ref aD)])) rfl rfl (hb hby d3_92)
  have N18 := Fr.snoc X18 N12 geD
  have V18 : Arv Z h18 aD kD .int (8 : Int32) [(.int (-1 : Int32)), (.int D1), (.int (0 : Int32)), (.int (0 : Int32)), (.int (0 : Int32)), (.int (0 : Int32)), (.int (0 : Int32)), (.int (0 : Int32))] (.int (0 : Int32)) := by
    have q := Arv.set Ar18 q18 S18 M18 H18 G18 rfl W18 0 rfl (Nat.le_of_ble_eq_true rfl)
    exact q
  refine own_go st18 ?_
  show own_G p.tables e below T18 (mkF m 93 #[.val (.ref a1)] []) _
  refine own_go (fun t_ k_ => XS.aloadN X18.here hx rfl (hb hby d3_93) rfl rfl k_) ?_
  show own_G p.tables e below T18 (mkF m 94 #[.val (.ref a1)] [(.ref a1)]) _
  refine own_go (fun t_ k_ => XS.dup X18.here hx rfl (hb hby d3_94) rfl rfl k_) ?_
  show own_G p.tables e below T18 (mkF m 95 #[.val (.ref a1)] [(.ref a1), (.ref a1)]) _
  have f19 : Fld Z h18 a1 "com/example/einzug/einzug/core/TextCharacters" "depth" "I" (.int (0 : Int32)) := (f15.other W18 (Or.inl n1D))
  obtain ⟨T20, X20, e20, st20⟩ := getF X18 hx hZ hown (host := "") (Or.inl (hw _ (List.mem_of_getElem? (i := 23) rfl))) Via.refl e18 f19 (g := (mkF m 95 #[.val (.ref a1)] [(.ref a1), (.ref a1)])) rfl rfl (hb hby d3_95)
  refine own_go st20 ?_
  show own_G p.tables e below T20 (mkF m 98 #[.val (.ref a1)] [(.int (0 : Int32)), (.ref a1)]) _
  refine own_go (fun t_ k_ => XS.iconst X20.here hx rfl (hb hby d3_98) k_) ?_
  show own_G p.tables e below T20 (mkF m 99 #[.val (.ref a1)] [(.int (1 : Int32)), (.int (0 : Int32)), (.ref a1)]) _
  refine own_go (fun t_ k_ => XS.iadd X20.here hx rfl (hb hby d3_99) rfl k_) ?_
  show own_G p.tables e below T20 (mkF m 100 #[.val (.ref a1)] [(.int (1 : Int32)), (.ref a1)]) _
  have f21 : Exa Z h18 a1 "com/example/einzug/einzug/core/TextCharacters" := (((E1.wr W6).wr W12).wr W18)
  obtain ⟨T22, h22, X22, e22, W22, st22⟩ := putF X20 hx hZ hown (host := "") (Or.inl (hw _ (List.mem_of_getElem? (i := 23) rfl))) Via.refl e20 f19 f21 (Or.inl (hw _ (List.mem_of_getElem? (i := 24) rfl))) (hw _ (List.mem_of_getElem? (i := 2) rfl)) (ty := .int) (by decide) rfl rfl (g := (mkF m 100 #[.val (.ref a1)] [(.int (1 : Int32)), (.ref a1)])) rfl rfl (hb hby d3_100)
  have N22 := Fr.snoc X22 N18 ge1
  refine own_go st22 ?_
  show own_G p.tables e below T22 (mkF m 103 #[.val (.ref a1)] []) _
  have f23 : Fld Z h22 a1 "com/example/einzug/einzug/core/TextCharacters" "depth" "I" (.int (1 : Int32)) := f19.same W22
  have f24 : Keep h0 h22 [a1, aR, aS, aD] := (((((Keep.refl h0 [a1, aR, aS, aD]).wr W6 (Or.inl (List.mem_of_getElem? (i := 1) rfl))).wr W12 (Or.inl (List.mem_of_getElem? (i := 2) rfl))).wr W18 (Or.inl (List.mem_of_getElem? (i := 3) rfl))).wr W22 (Or.inl (List.mem_of_getElem? (i := 0) rfl)))
  have f25 : Exa Z h22 a1 "com/example/einzug/einzug/core/TextCharacters" := (f21.wr W22)
  have f26 : Fld Z h22 a1 "com/example/einzug/einzug/core/TextCharacters" "refused" "[I" (.ref aR) := ((((F_refused.other W6 (Or.inl n1R)).other W12 (Or.inl n1S)).other W18 (Or.inl n1D)).other W22 (Or.inr (slot_ne (Or.inl (hw _ (List.mem_of_getElem? (i := 12) rfl))) (Or.inl (hw _ (List.mem_of_getElem? (i := 24) rfl))) (by decide) (t := (.array .int)) (t' := .int) (by decide) (by decide))))
  have f27 : Fld Z h22 a1 "com/example/einzug/einzug/core/TextCharacters" "started" "[Z" (.ref aS) := (((f7.other W12 (Or.inl n1S)).other W18 (Or.inl n1D)).other W22 (Or.inr (slot_ne (Or.inl (hw _ (List.mem_of_getElem? (i := 15) rfl))) (Or.inl (hw _ (List.mem_of_getElem? (i := 24) rfl))) (by decide) (t := (.array .boolean)) (t' := .int) (by decide) (by decide))))
  have f28 : Fld Z h22 a1 "com/example/einzug/einzug/core/TextCharacters" "pending" "[I" (.ref aD) := ((f13.other W18 (Or.inl n1D)).other W22 (Or.inr (slot_ne (Or.inl (hw _ (List.mem_of_getElem? (i := 17) rfl))) (Or.inl (hw _ (List.mem_of_getElem? (i := 24) rfl))) (by decide) (t := (.array .int)) (t' := .int) (by decide) (by decide))))
  have f29 : Arv Z h22 aR kR .int (8 : Int32) [(.int (-1 : Int32)), (.int R1), (.int (0 : Int32)), (.int (0 : Int32)), (.int (0 : Int32)), (.int (0 : Int32)), (.int (0 : Int32)), (.int (0 : Int32))] (.int (0 : Int32)) := (((V6.other W12 nRS).other W18 nRD).other W22 (Ne.symm n1R))
  have f30 : Arv Z h22 aS kS .boolean (8 : Int32) [(.int (0 : Int32)), (.int S1), (.int (0 : Int32)), (.int (0 : Int32)), (.int (0 : Int32)), (.int (0 : Int32)), (.int (0 : Int32)), (.int (0 : Int32))] (.int (0 : Int32)) := ((V12.other W18 nSD).other W22 (Ne.symm n1S))
  have f31 : Arv Z h22 aD kD .int (8 : Int32) [(.int (-1 : Int32)), (.int D1), (.int (0 : Int32)), (.int (0 : Int32)), (.int (0 : Int32)), (.int (0 : Int32)), (.int (0 : Int32)), (.int (0 : Int32))] (.int (0 : Int32)) := (V18.other W22 (Ne.symm n1D))
  exact own_end (v := none) X22 Bd.notSynchronized (fun _ => rfl) (fun fs hr => X22.returnOut hx Bd.returns (hb hby d3_103) hr) e22 ⟨rfl, N22, f24, f25, f23, f26, f27, f28, f29, f30, f31⟩ (by decide) (by decide)
theorem ef_3d1 (m : MethodId) (a1 : Addr) : entryFrame m #[(.ref a1)] 1 = mkF m 0 #[.val (.ref a1)] [] := by first | (simp [entryFrame, mkF, argsToLocals, Value.category]; done) | rfl
def Q3d1 (Z : State) (a1 : Addr) (aR aS aD : Addr) (kR kS kD : ClassId) (R0 R1 S0 S1 D0 D1 : Int32) (h0 : Heap) (n0 : Nat) (v : Option Value) (h : Heap) (L : List Loc) : Prop := v = none ∧ Fr n0 L ∧ Keep h0 h [a1, aR, aS, aD] ∧ Exa Z h a1 "com/example/einzug/einzug/core/TextCharacters" ∧ Fld Z h a1 "com/example/einzug/einzug/core/TextCharacters" "depth" "I" (.int (2 : Int32)) ∧ Fld Z h a1 "com/example/einzug/einzug/core/TextCharacters" "refused" "[I" (.ref aR) ∧ Fld Z h a1 "com/example/einzug/einzug/core/TextCharacters" "started" "[Z" (.ref aS) ∧ Fld Z h a1 "com/example/einzug/einzug/core/TextCharacters" "pending" "[I" (.ref aD) ∧ Arv Z h aR kR .int (8 : Int32) [(.int R0), (.int (-1 : Int32)), (.int (0 : Int32)), (.int (0 : Int32)), (.int (0 : Int32)), (.int (0 : Int32)), (.int (0 : Int32)), (.int (0 : Int32))] (.int (0 : Int32)) ∧ Arv Z h aS kS .boolean (8 : Int32) [(.int S0), (.int (0 : Int32)), (.int (0 : Int32)), (.int (0 : Int32)), (.int (0 : Int32)), (.int (0 : Int32)), (.int (0 : Int32)), (.int (0 : Int32))] (.int (0 : Int32)) ∧ Arv Z h aD kD .int (8 : Int32) [(.int D0), (.int (-1 : Int32)), (.int (0 : Int32)), (.int (0 : Int32)), (.int (0 : Int32)), (.int (0 : Int32)), (.int (0 : Int32)), (.int (0 : Int32))] (.int (0 : Int32))
set_option maxRecDepth 65536 in
set_option maxHeartbeats 40000000 in
theorem rm3d1 (l : Launch) (Z : State) (a0 : Array Value) (hw : ∀ d ∈ tables_1, d.before a0 Z = true) (ws : List Jvm.Cond) (a1 : Addr) (aR aS aD : Addr) (kR kS kD : ClassId) (R0 R1 S0 S1 D0 D1 : Int32) (h0 : Heap) (n0 : Nat) (Z0 : n0 ≤ h0.size) (ge1 : n0 ≤ a1) (E1 : Exa Z h0 a1 "com/example/einzug/einzug/core/TextCharacters") (F_depth : Fld Z h0 a1 "com/example/einzug/einzug/core/TextCharacters" "depth" "I" (.int (1 : Int32))) (F_refused : Fld Z h0 a1 "com/example/einzug/einzug/core/TextCharacters" "refused" "[I" (.ref aR)) (F_started : Fld Z h0 a1 "com/example/einzug/einzug/core/TextCharacters" "started" "[Z" (.ref aS)) (F_pending : Fld Z h0 a1 "com/example/einzug/einzug/core/TextCharacters" "pending" "[I" (.ref aD)) (V_refused : Arv Z h0 aR kR .int (8 : Int32) [(.int R0), (.int R1), (.int (0 : Int32)), (.int (0 : Int32)), (.int (0 : Int32)), (.int (0 : Int32)), (.int (0 : Int32)), (.int (0 : Int32))] (.int (0 : Int32))) (V_started : Arv Z h0 aS kS .boolean (8 : Int32) [(.int S0), (.int S1), (.int (0 : Int32)), (.int (0 : Int32)), (.int (0 : Int32)), (.int (0 : Int32)), (.int (0 : Int32)), (.int (0 : Int32))] (.int (0 : Int32))) (V_pending : Arv Z h0 aD kD .int (8 : Int32) [(.int D0), (.int D1), (.int (0 : Int32)), (.int (0 : Int32)), (.int (0 : Int32)), (.int (0 : Int32)), (.int (0 : Int32)), (.int (0 : Int32))] (.int (0 : Int32))) (nRS : aR ≠ aS) (nRD : aR ≠ aD) (nSD : aS ≠ aD) (n1R : a1 ≠ aR) (n1S : a1 ≠ aS) (n1D : a1 ≠ aD) (geR : n0 ≤ aR) (geS : n0 ≤ aS) (geD : n0 ≤ aD) :
    MetFree l (⟨"com/example/einzug/einzug/core/TextCharacters", "open", "()V"⟩ : MethodName) (head1 (Jvm.Cond.code (⟨"com/example/einzug/einzug/core/TextCharacters", "open", "()V"⟩ : MethodName) prog_145_method_2_code 1 none :: ws) ({ frames := 0, cells := 0, slots := 0, locals := 0 } : Room)) (fun a U => a = #[(.ref a1)] ∧ Z.Warmed39 U.vm ∧ U.heap = h0) (fun _ _ _ _ _ => True) (fun _ U o U' => ∃ v L, o = .returned v ∧ Q3d1 Z a1 aR aS aD kR kS kD R0 R1 S0 S1 D0 D1 h0 n0 v U'.heap L ∧ FrameEnd U o U' L ({ frames := 0, cells := 0, slots := 0, locals := 0 } : Room).cells ({ frames := 0, cells := 0, slots := 0, locals := 0 } : Room).slots) := by
  refine MetFree.of_bodySF (plainFor_of_name own_pn4) hisR ?_
  intro p e s m args below meth c s₁ Bd hml0 hP hK
  obtain ⟨rfl, hZ, hh⟩ := hP
  have hx := Bd.exec
  have hby := Bd.bytes
  have hml : c.maxLocals = 1 := hml0
  have hown : s.vm.findClass "com/example/einzug/einzug/core/TextCharacters" = some m.cls := findClass_of_methodNamed Bd.named
  have hnm := (name_of_methodNamed Bd.named Bd.method).1
  have X0 : Stand p l e ({ frames := 0, cells := 0, slots := 0, locals := 0 } : Room) s m #[(.ref a1)] below meth c s₁ [] 0 0 := Stand.of_body Bd
  have e0 : s₁.heap = h0 := by rw [← hh, Bd.state]; rfl
  have N0 := Fr.nil n0
  refine own_top (Q := Q3d1 Z a1 aR aS aD kR kS kD R0 R1 S0 S1 D0 D1 h0 n0) (ef_3d1 m a1) ?_
  show own_G p.tables e below s₁ (mkF m 0 #[.val (.ref a1)] []) _
  refine own_go (fun t_ k_ => XS.aloadN X0.here hx rfl (hb hby d3_0) rfl rfl k_) ?_
  show own_G p.tables e below s₁ (mkF m 1 #[.val (.ref a1)] [(.ref a1)]) _
  obtain ⟨T1, X1, e1, st1⟩ := getF X0 hx hZ hown (host := "") (Or.inl (hw _ (List.mem_of_getElem? (i := 23) rfl))) Via.refl e0 F_depth (g := (mkF m 1 #[.val (.ref a1)] [(.ref a1)])) rfl rfl (hb hby d3_1)
  refine own_go st1 ?_
  show own_G p.tables e below T1 (mkF m 4 #[.val (.ref a1)] [(.int (1 : Int32))]) _
  refine own_go (fun t_ k_ => XS.aloadN X1.here hx rfl (hb hby d3_4) rfl rfl k_) ?_
  show own_G p.tables e below T1 (mkF m 5 #[.val (.ref a1)] [(.ref a1), (.int (1 : Int32))]) _
  obtain ⟨T2, X2, e2, st2⟩ := getF X1 hx hZ hown (host := "") (Or.inl (hw _ (List.mem_of_getElem? (i := 11) rfl))) Via.refl e1 F_refused (g := (mkF m 5 #[.val (.ref a1)] [(.ref a1), (.int (1 : Int32))])) rfl rfl (hb hby d3_5)
  refine own_go st2 ?_
  show own_G p.tables e below T2 (mkF m 8 #[.val (.ref a1)] [(.ref aR), (.int (1 : Int32))]) _
  obtain ⟨cl3, Ar3, -, S3, M3, H3, -⟩ := id V_refused
  refine own_go (fun t_ k_ => X2.arraylength hx (by rw [e2]; exact Ar3.1) (State.isArrayOf_alike hZ.alike Ar3.2.1) (g := (mkF m 8 #[.val (.ref a1)] [(.ref aR), (.int (1 : Int32))])) rfl rfl (hb hby d3_8) _ k_) ?_
  show own_G p.tables e below T2 (mkF m 9 #[.val (.ref a1)] [(.int cl3.slots.size.toInt32), (.int (1 : Int32))]) _
  rw [len_of S3 M3]
  show own_G p.tables e below T2 (mkF m 9 #[.val (.ref a1)] [(.int (8 : Int32)), (.int (1 : Int32))]) _
  refine own_go (fun t_ k_ => XS.icmpYes X2.here hx rfl (pc0 := 9) (pc' := 63) rfl (hb hby d3_9) rfl (feq (by decide : ¬ ((1 : Int32) = (8 : Int32)))).2 (by decide) (by decide) k_) ?_
  show own_G p.tables e below T2 (mkF m 63 #[.val (.ref a1)] []) _
  refine own_go (fun t_ k_ => XS.aloadN X2.here hx rfl (hb hby d3_63) rfl rfl k_) ?_
  show own_G p.tables e below T2 (mkF m 64 #[.val (.ref a1)] [(.ref a1)]) _
  obtain ⟨T4, X4, e4, st4⟩ := getF X2 hx hZ hown (host := "") (Or.inl (hw _ (List.mem_of_getElem? (i := 11) rfl))) Via.refl e2 F_refused (g := (mkF m 64 #[.val (.ref a1)] [(.ref a1)])) rfl rfl (hb hby d3_64)
  refine own_go st4 ?_
  show own_G p.tables e below T4 (mkF m 67 #[.val (.ref a1)] [(.ref aR)]) _
  refine own_go (fun t_ k_ => XS.aloadN X4.here hx rfl (hb hby d3_67) rfl rfl k_) ?_
  show own_G p.tables e below T4 (mkF m 68 #[.val (.ref a1)] [(.ref a1), (.ref aR)]) _
  obtain ⟨T5, X5, e5, st5⟩ := getF X4 hx hZ hown (host := "") (Or.inl (hw _ (List.mem_of_getElem? (i := 23) rfl))) Via.refl e4 F_depth (g := (mkF m 68 #[.val (.ref a1)] [(.ref a1), (.ref aR)])) rfl rfl (hb hby d3_68)
  refine own_go st5 ?_
  show own_G p.tables e below T5 (mkF m 71 #[.val (.ref a1)] [(.int (1 : Int32)), (.ref aR)]) _
  refine own_go (fun t_ k_ => XS.iconst X5.here hx rfl (hb hby d3_71) k_) ?_
  show own_G p.tables e below T5 (mkF m 72 #[.val (.ref a1)] [(.int (-1 : Int32)), (.int (1 : Int32)), (.ref aR)]) _
  obtain ⟨cl6, Ar6, q6, S6, M6, H6, G6⟩ := id V_refused
  have hin6 : ¬ ((1 : Int32) < 0 ∨ cl6.slots.size ≤ ((1 : Int32)).toNatClampNeg) := inb_of S6 ⟨by decide, by decide⟩
  obtain ⟨T6, h6, X6, e6, W6, st6⟩ := stI X5 hx hZ e5 Ar6 (j := (1 : Int32)) hin6 (g := (mkF m 72 #[.val (.ref a1)] [(.int (-1 : Int32)), (.int (1 : Int32)), (.ref aR)])) rfl rfl (hb hby d3_72)
  have N6 := Fr.snoc X6 N0 geR
  have V6 : Arv Z h6 aR kR .int (8 : Int32) [(.int R0), (.int (-1 : Int32)), (.int (0 : Int32)), (.int (0 : Int32)), (.int (0 : Int32)), (.int (0 : Int32)), (.int (0 : Int32)), (.int (0 : Int32))] (.int (0 : Int32)) := by
    have q := Arv.set Ar6 q6 S6 M6 H6 G6 rfl W6 1 rfl (Nat.le_of_ble_eq_true rfl)
    exact q
  refine own_go st6 ?_
  show own_G p.tables e below T6 (mkF m 73 #[.val (.ref a1)] []) _
  refine own_go (fun t_ k_ => XS.aloadN X6.here hx rfl (hb hby d3_73) rfl rfl k_) ?_
  show own_G p.tables e below T6 (mkF m 74 #[.val (.ref a1)] [(.ref a1)]) _
  have f7 : Fld Z h6 a1 "com/example/einzug/einzug/core/TextCharacters" "started" "[Z" (.ref aS) := (F_started.other W6 (Or.inl n1R))
  obtain ⟨T8, X8, e8, st8⟩ := getF X6 hx hZ hown (host := "") (Or.inl (hw _ (List.mem_of_getElem? (i := 14) rfl))) Via.refl e6 f7 (g := (mkF m 74 #[.val (.ref a1)] [(.ref a1)])) rfl rfl (hb hby d3_74)
  refine own_go st8 ?_
  show own_G p.tables e below T8 (mkF m 77 #[.val (.ref a1)] [(.ref aS)]) _
  refine own_go (fun t_ k_ => XS.aloadN X8.here hx rfl (hb hby d3_77) rfl rfl k_) ?_
  show own_G p.tables e below T8 (mkF m 78 #[.val (.ref a1)] [(.ref a1), (.ref aS)]) _
  have f9 : Fld Z h6 a1 "com/example/einzug/einzug/core/TextCharacters" "depth" "I" (.int (1 : Int32)) := (F_depth.other W6 (Or.inl n1R))
  obtain ⟨T10, X10, e10, st10⟩ := getF X8 hx hZ hown (host := "") (Or.inl (hw _ (List.mem_of_getElem? (i := 23) rfl))) Via.refl e8 f9 (g := (mkF m 78 #[.val (.ref a1)] [(.ref a1), (.ref aS)])) rfl rfl (hb hby d3_78)
  refine own_go st10 ?_
  show own_G p.tables e below T10 (mkF m 81 #[.val (.ref a1)] [(.int (1 : Int32)), (.ref aS)]) _
  refine own_go (fun t_ k_ => XS.iconst X10.here hx rfl (hb hby d3_81) k_) ?_
  show own_G p.tables e below T10 (mkF m 82 #[.val (.ref a1)] [(.int (0 : Int32)), (.int (1 : Int32)), (.ref aS)]) _
  have f11 : Arv Z h6 aS kS .boolean (8 : Int32) [(.int S0), (.int S1), (.int (0 : Int32)), (.int (0 : Int32)), (.int (0 : Int32)), (.int (0 : Int32)), (.int (0 : Int32)), (.int (0 : Int32))] (.int (0 : Int32)) := (V_started.other W6 (Ne.symm nRS))
  obtain ⟨cl12, Ar12, q12, S12, M12, H12, G12⟩ := id f11
  have hin12 : ¬ ((1 : Int32) < 0 ∨ cl12.slots.size ≤ ((1 : Int32)).toNatClampNeg) := inb_of S12 ⟨by decide, by decide⟩
  obtain ⟨T12, h12, X12, e12, W12, st12⟩ := stZ X10 hx hZ e10 Ar12 (j := (1 : Int32)) hin12 (g := (mkF m 82 #[.val (.ref a1)] [(.int (0 : Int32)), (.int (1 : Int32)), (.ref aS)])) rfl rfl (hb hby d3_82)
  have N12 := Fr.snoc X12 N6 geS
  have V12 : Arv Z h12 aS kS .boolean (8 : Int32) [(.int S0), (.int (0 : Int32)), (.int (0 : Int32)), (.int (0 : Int32)), (.int (0 : Int32)), (.int (0 : Int32)), (.int (0 : Int32)), (.int (0 : Int32))] (.int (0 : Int32)) := by
    have q := Arv.set Ar12 q12 S12 M12 H12 G12 (fits_nar_bool _) W12 1 rfl (Nat.le_of_ble_eq_true rfl)
    exact q
  refine own_go st12 ?_
  show own_G p.tables e below T12 (mkF m 83 #[.val (.ref a1)] []) _
  refine own_go (fun t_ k_ => XS.aloadN X12.here hx rfl (hb hby d3_83) rfl rfl k_) ?_
  show own_G p.tables e below T12 (mkF m 84 #[.val (.ref a1)] [(.ref a1)]) _
  have f13 : Fld Z h12 a1 "com/example/einzug/einzug/core/TextCharacters" "pending" "[I" (.ref aD) := ((F_pending.other W6 (Or.inl n1R)).other W12 (Or.inl n1S))
  obtain ⟨T14, X14, e14, st14⟩ := getF X12 hx hZ hown (host := "") (Or.inl (hw _ (List.mem_of_getElem? (i := 16) rfl))) Via.refl e12 f13 (g := (mkF m 84 #[.val (.ref a1)] [(.ref a1)])) rfl rfl (hb hby d3_84)
  refine own_go st14 ?_
  show own_G p.tables e below T14 (mkF m 87 #[.val (.ref a1)] [(.ref aD)]) _
  refine own_go (fun t_ k_ => XS.aloadN X14.here hx rfl (hb hby d3_87) rfl rfl k_) ?_
  show own_G p.tables e below T14 (mkF m 88 #[.val (.ref a1)] [(.ref a1), (.ref aD)]) _
  have f15 : Fld Z h12 a1 "com/example/einzug/einzug/core/TextCharacters" "depth" "I" (.int (1 : Int32)) := (f9.other W12 (Or.inl n1S))
  obtain ⟨T16, X16, e16, st16⟩ := getF X14 hx hZ hown (host := "") (Or.inl (hw _ (List.mem_of_getElem? (i := 23) rfl))) Via.refl e14 f15 (g := (mkF m 88 #[.val (.ref a1)] [(.ref a1), (.ref aD)])) rfl rfl (hb hby d3_88)
  refine own_go st16 ?_
  show own_G p.tables e below T16 (mkF m 91 #[.val (.ref a1)] [(.int (1 : Int32)), (.ref aD)]) _
  refine own_go (fun t_ k_ => XS.iconst X16.here hx rfl (hb hby d3_91) k_) ?_
  show own_G p.tables e below T16 (mkF m 92 #[.val (.ref a1)] [(.int (-1 : Int32)), (.int (1 : Int32)), (.ref aD)]) _
  have f17 : Arv Z h12 aD kD .int (8 : Int32) [(.int D0), (.int D1), (.int (0 : Int32)), (.int (0 : Int32)), (.int (0 : Int32)), (.int (0 : Int32)), (.int (0 : Int32)), (.int (0 : Int32))] (.int (0 : Int32)) := ((V_pending.other W6 (Ne.symm nRD)).other W12 (Ne.symm nSD))
  obtain ⟨cl18, Ar18, q18, S18, M18, H18, G18⟩ := id f17
  have hin18 : ¬ ((1 : Int32) < 0 ∨ cl18.slots.size ≤ ((1 : Int32)).toNatClampNeg) := inb_of S18 ⟨by decide, by decide⟩
  obtain ⟨T18, h18, X18, e18, W18, st18⟩ := stI X16 hx hZ e16 Ar18 (j := (1 : Int32)) hin18 (g := (mkF m 92 #[.val (.ref a1)] [(.int (-1 : Int32)), (.int (1 : Int32)), (.ref aD)])) rfl rfl (hb hby d3_92)
  have N18 := Fr.snoc X18 N12 geD
  have V18 : Arv Z h18 aD kD .int (8 : Int32) [(.int D0), (.int (-1 : Int32)), (.int (0 : Int32)), (.int (0 : Int32)), (.int (0 : Int32)), (.int (0 : Int32)), (.int (0 : Int32)), (.int (0 : Int32))] (.int (0 : Int32)) := by
    have q := Arv.set Ar18 q18 S18 M18 H18 G18 rfl W18 1 rfl (Nat.le_of_ble_eq_true rfl)
    exact q
  refine own_go st18 ?_
  show own_G p.tables e below T18 (mkF m 93 #[.val (.ref a1)] []) _
  refine own_go (fun t_ k_ => XS.aloadN X18.here hx rfl (hb hby d3_93) rfl rfl k_) ?_
  show own_G p.tables e below T18 (mkF m 94 #[.val (.ref a1)] [(.ref a1)]) _
  refine own_go (fun t_ k_ => XS.dup X18.here hx rfl (hb hby d3_94) rfl rfl k_) ?_
  show own_G p.tables e below T18 (mkF m 95 #[.val (.ref a1)] [(.ref a1), (.ref a1)]) _
  have f19 : Fld Z h18 a1 "com/example/einzug/einzug/core/TextCharacters" "depth" "I" (.int (1 : Int32)) := (f15.other W18 (Or.inl n1D))
  obtain ⟨T20, X20, e20, st20⟩ := getF X18 hx hZ hown (host := "") (Or.inl (hw _ (List.mem_of_getElem? (i := 23) rfl))) Via.refl e18 f19 (g := (mkF m 95 #[.val (.ref a1)] [(.ref a1), (.ref a1)])) rfl rfl (hb hby d3_95)
  refine own_go st20 ?_
  show own_G p.tables e below T20 (mkF m 98 #[.val (.ref a1)] [(.int (1 : Int32)), (.ref a1)]) _
  refine own_go (fun t_ k_ => XS.iconst X20.here hx rfl (hb hby d3_98) k_) ?_
  show own_G p.tables e below T20 (mkF m 99 #[.val (.ref a1)] [(.int (1 : Int32)), (.int (1 : Int32)), (.ref a1)]) _
  refine own_go (fun t_ k_ => XS.iadd X20.here hx rfl (hb hby d3_99) rfl k_) ?_
  show own_G p.tables e below T20 (mkF m 100 #[.val (.ref a1)] [(.int (2 : Int32)), (.ref a1)]) _
  have f21 : Exa Z h18 a1 "com/example/einzug/einzug/core/TextCharacters" := (((E1.wr W6).wr W12).wr W18)
  obtain ⟨T22, h22, X22, e22, W22, st22⟩ := putF X20 hx hZ hown (host := "") (Or.inl (hw _ (List.mem_of_getElem? (i := 23) rfl))) Via.refl e20 f19 f21 (Or.inl (hw _ (List.mem_of_getElem? (i := 24) rfl))) (hw _ (List.mem_of_getElem? (i := 2) rfl)) (ty := .int) (by decide) rfl rfl (g := (mkF m 100 #[.val (.ref a1)] [(.int (2 : Int32)), (.ref a1)])) rfl rfl (hb hby d3_100)
  have N22 := Fr.snoc X22 N18 ge1
  refine own_go st22 ?_
  show own_G p.tables e below T22 (mkF m 103 #[.val (.ref a1)] []) _
  have f23 : Fld Z h22 a1 "com/example/einzug/einzug/core/TextCharacters" "depth" "I" (.int (2 : Int32)) := f19.same W22
  have f24 : Keep h0 h22 [a1, aR, aS, aD] := (((((Keep.refl h0 [a1, aR, aS, aD]).wr W6 (Or.inl (List.mem_of_getElem? (i := 1) rfl))).wr W12 (Or.inl (List.mem_of_getElem? (i := 2) rfl))).wr W18 (Or.inl (List.mem_of_getElem? (i := 3) rfl))).wr W22 (Or.inl (List.mem_of_getElem? (i := 0) rfl)))
  have f25 : Exa Z h22 a1 "com/example/einzug/einzug/core/TextCharacters" := (f21.wr W22)
  have f26 : Fld Z h22 a1 "com/example/einzug/einzug/core/TextCharacters" "refused" "[I" (.ref aR) := ((((F_refused.other W6 (Or.inl n1R)).other W12 (Or.inl n1S)).other W18 (Or.inl n1D)).other W22 (Or.inr (slot_ne (Or.inl (hw _ (List.mem_of_getElem? (i := 12) rfl))) (Or.inl (hw _ (List.mem_of_getElem? (i := 24) rfl))) (by decide) (t := (.array .int)) (t' := .int) (by decide) (by decide))))
  have f27 : Fld Z h22 a1 "com/example/einzug/einzug/core/TextCharacters" "started" "[Z" (.ref aS) := (((f7.other W12 (Or.inl n1S)).other W18 (Or.inl n1D)).other W22 (Or.inr (slot_ne (Or.inl (hw _ (List.mem_of_getElem? (i := 15) rfl))) (Or.inl (hw _ (List.mem_of_getElem? (i := 24) rfl))) (by decide) (t := (.array .boolean)) (t' := .int) (by decide) (by decide))))
  have f28 : Fld Z h22 a1 "com/example/einzug/einzug/core/TextCharacters" "pending" "[I" (.ref aD) := ((f13.other W18 (Or.inl n1D)).other W22 (Or.inr (slot_ne (Or.inl (hw _ (List.mem_of_getElem? (i := 17) rfl))) (Or.inl (hw _ (List.mem_of_getElem? (i := 24) rfl))) (by decide) (t := (.array .int)) (t' := .int) (by decide) (by decide))))
  have f29 : Arv Z h22 aR kR .int (8 : Int32) [(.int R0), (.int (-1 : Int32)), (.int (0 : Int32)), (.int (0 : Int32)), (.int (0 : Int32)), (.int (0 : Int32)), (.int (0 : Int32)), (.int (0 : Int32))] (.int (0 : Int32)) := (((V6.other W12 nRS).other W18 nRD).other W22 (Ne.symm n1R))
  have f30 : Arv Z h22 aS kS .boolean (8 : Int32) [(.int S0), (.int (0 : Int32)), (.int (0 : Int32)), (.int (0 : Int32)), (.int (0 : Int32)), (.int (0 : Int32)), (.int (0 : Int32)), (.int (0 : Int32))] (.int (0 : Int32)) := ((V12.other W18 nSD).other W22 (Ne.symm n1S))
  have f31 : Arv Z h22 aD kD .int (8 : Int32) [(.int D0), (.int (-1 : Int32)), (.int (0 : Int32)), (.int (0 : Int32)), (.int (0 : Int32)), (.int (0 : Int32)), (.int (0 : Int32)), (.int (0 : Int32))] (.int (0 : Int32)) := (V18.other W22 (Ne.symm n1D))
  exact own_end (v := none) X22 Bd.notSynchronized (fun _ => rfl) (fun fs hr => X22.returnOut hx Bd.returns (hb hby d3_103) hr) e22 ⟨rfl, N22, f24, f25, f23, f26, f27, f28, f29, f30, f31⟩ (by decide) (by decide)
theorem d11_0 : decode prog_145_method_4_code 0 = .ok (.aload_n 0, 1) := by decide +kernel
theorem d11_1 : decode prog_145_method_4_code 1 = .ok (.dup, 1) := by decide +kernel
theorem d11_2 : decode prog_145_method_4_code 2 = .ok (.getfield 20, 3) := by decide +kernel
theorem d11_5 : decode prog_145_method_4_code 5 = .ok (.iconst 1, 1) := by decide +kernel
theorem d11_6 : decode prog_145_method_4_code 6 = .ok (.isub, 1) := by decide +kernel
theorem d11_7 : decode prog_145_method_4_code 7 = .ok (.putfield 20, 3) := by decide +kernel
theorem d11_10 : decode prog_145_method_4_code 10 = .ok (.aload_n 0, 1) := by decide +kernel
theorem d11_11 : decode prog_145_method_4_code 11 = .ok (.getfield 7, 3) := by decide +kernel
theorem d11_14 : decode prog_145_method_4_code 14 = .ok (.aload_n 0, 1) := by decide +kernel
theorem d11_15 : decode prog_145_method_4_code 15 = .ok (.getfield 20, 3) := by decide +kernel
theorem d11_18 : decode prog_145_method_4_code 18 = .ok (.iaload, 1) := by decide +kernel
theorem d11_19 : decode prog_145_method_4_code 19 = .ok (.ireturn, 1) := by decide +kernel
theorem ef_11d1 (m : MethodId) (a1 : Addr) : entryFrame m #[(.ref a1)] 1 = mkF m 0 #[.val (.ref a1)] [] := by first | (simp [entryFrame, mkF, argsToLocals, Value.category]; done) | rfl
def Q11d1 (Z : State) (a1 : Addr) (aR : Addr) (kR : ClassId) (R0 R1 : Int32) (h0 : Heap) (n0 : Nat) (v : Option Value) (h : Heap) (L : List Loc) : Prop := v = some (.int R0) ∧ Fr n0 L ∧ Keep h0 h [a1] ∧ Exa Z h a1 "com/example/einzug/einzug/core/TextCharacters" ∧ Fld Z h a1 "com/example/einzug/einzug/core/TextCharacters" "depth" "I" (.int (0 : Int32)) ∧ Fld Z h a1 "com/example/einzug/einzug/core/TextCharacters" "refused" "[I" (.ref aR) ∧ ∀ (f d : String) (v : Value), f ≠ "depth" → Fld Z h0 a1 "com/example/einzug/einzug/core/TextCharacters" f d v → Jvm.RoadKit.slotOf Z "com/example/einzug/einzug/core/TextCharacters" f d ≠ Jvm.RoadKit.slotOf Z "com/example/einzug/einzug/core/TextCharacters" "depth" "I" → Fld Z h a1 "com/example/einzug/einzug/core/TextCharacters" f d v
set_option maxRecDepth 65536 in
set_option maxHeartbeats 40000000 in
theorem rm11d1 (l : Launch) (Z : State) (a0 : Array Value) (hw : ∀ d ∈ tables_1, d.before a0 Z = true) (ws : List Jvm.Cond) (a1 : Addr) (aR : Addr) (kR : ClassId) (R0 R1 : Int32) (h0 : Heap) (n0 : Nat) (Z0 : n0 ≤ h0.size) (ge1 : n0 ≤ a1) (E1 : Exa Z h0 a1 "com/example/einzug/einzug/core/TextCharacters") (F_depth : Fld Z h0 a1 "com/example/einzug/einzug/core/TextCharacters" "depth" "I" (.int (1 : Int32))) (F_refused : Fld Z h0 a1 "com/example/einzug/einzug/core/TextCharacters" "refused" "[I" (.ref aR)) (V_refused : Arv Z h0 aR kR .int (8 : Int32) [(.int R0), (.int R1), (.int (0 : Int32)), (.int (0 : Int32)), (.int (0 : Int32)), (.int (0 : Int32)), (.int (0 : Int32)), (.int (0 : Int32))] (.int (0 : Int32))) (n1R : a1 ≠ aR) :
    MetFree l (⟨"com/example/einzug/einzug/core/TextCharacters", "close", "()I"⟩ : MethodName) (head1 (Jvm.Cond.code (⟨"com/example/einzug/einzug/core/TextCharacters", "close", "()I"⟩ : MethodName) prog_145_method_4_code 1 (some .int) :: ws) ({ frames := 0, cells := 0, slots := 0, locals := 0 } : Room)) (fun a U => a = #[(.ref a1)] ∧ Z.Warmed39 U.vm ∧ U.heap = h0) (fun _ _ _ _ _ => True) (fun _ U o U' => ∃ v L, o = .returned v ∧ Q11d1 Z a1 aR kR R0 R1 h0 n0 v U'.heap L ∧ FrameEnd U o U' L ({ frames := 0, cells := 0, slots := 0, locals := 0 } : Room).cells ({ frames := 0, cells := 0, slots := 0, locals := 0 } : Room).slots) := by
  refine MetFree.of_bodySF (plainFor_of_name own_pn4) hisR ?_
  intro p e s m args below meth c s₁ Bd hml0 hP hK
  obtain ⟨rfl, hZ, hh⟩ := hP
  have hx := Bd.exec
  have hby := Bd.bytes
  have hml : c.maxLocals = 1 := hml0
  have hown : s.vm.findClass "com/example/einzug/einzug/core/TextCharacters" = some m.cls := findClass_of_methodNamed Bd.named
  have hnm := (name_of_methodNamed Bd.named Bd.method).1
  have X0 : Stand p l e ({ frames := 0, cells := 0, slots := 0, locals := 0 } : Room) s m #[(.ref a1)] below meth c s₁ [] 0 0 := Stand.of_body Bd
  have e0 : s₁.heap = h0 := by rw [← hh, Bd.state]; rfl
  have N0 := Fr.nil n0
  refine own_top (Q := Q11d1 Z a1 aR kR R0 R1 h0 n0) (ef_11d1 m a1) ?_
  show own_G p.tables e below s₁ (mkF m 0 #[.val (.ref a1)] []) _
  refine own_go (fun t_ k_ => XS.aloadN X0.here hx rfl (hb hby d11_0) rfl rfl k_) ?_
  show own_G p.tables e below s₁ (mkF m 1 #[.val (.ref a1)] [(.ref a1)]) _
  refine own_go (fun t_ k_ => XS.dup X0.here hx rfl (hb hby d11_1) rfl rfl k_) ?_
  show own_G p.tables e below s₁ (mkF m 2 #[.val (.ref a1)] [(.ref a1), (.ref a1)]) _
  obtain ⟨T1, X1, e1, st1⟩ := getF X0 hx hZ hown (host := "") (Or.inl (hw _ (List.mem_of_getElem? (i := 23) rfl))) Via.refl e0 F_depth (g := (mkF m 2 #[.val (.ref a1)] [(.ref a1), (.ref a1)])) rfl rfl (hb hby d11_2)
  refine own_go st1 ?_
  show own_G p.tables e below T1 (mkF m 5 #[.val (.ref a1)] [(.int (1 : Int32)), (.ref a1)]) _
  refine own_go (fun t_ k_ => XS.iconst X1.here hx rfl (hb hby d11_5) k_) ?_
  show own_G p.tables e below T1 (mkF m 6 #[.val (.ref a1)] [(.int (1 : Int32)), (.int (1 : Int32)), (.ref a1)]) _
  refine own_go (fun t_ k_ => XS.isub X1.here hx rfl (hb hby d11_6) rfl k_) ?_
  show own_G p.tables e below T1 (mkF m 7 #[.val (.ref a1)] [(.int (0 : Int32)), (.ref a1)]) _
  obtain ⟨T2, h2, X2, e2, W2, st2⟩ := putF X1 hx hZ hown (host := "") (Or.inl (hw _ (List.mem_of_getElem? (i := 23) rfl))) Via.refl e1 F_depth E1 (Or.inl (hw _ (List.mem_of_getElem? (i := 24) rfl))) (hw _ (List.mem_of_getElem? (i := 2) rfl)) (ty := .int) (by decide) rfl rfl (g := (mkF m 7 #[.val (.ref a1)] [(.int (0 : Int32)), (.ref a1)])) rfl rfl (hb hby d11_7)
  have N2 := Fr.snoc X2 N0 ge1
  refine own_go st2 ?_
  show own_G p.tables e below T2 (mkF m 10 #[.val (.ref a1)] []) _
  have f3 : Fld Z h2 a1 "com/example/einzug/einzug/core/TextCharacters" "depth" "I" (.int (0 : Int32)) := F_depth.same W2
  refine own_go (fun t_ k_ => XS.aloadN X2.here hx rfl (hb hby d11_10) rfl rfl k_) ?_
  show own_G p.tables e below T2 (mkF m 11 #[.val (.ref a1)] [(.ref a1)]) _
  have f4 : Fld Z h2 a1 "com/example/einzug/einzug/core/TextCharacters" "refused" "[I" (.ref aR) := (F_refused.other W2 (Or.inr (slot_ne (Or.inl (hw _ (List.mem_of_getElem? (i := 12) rfl))) (Or.inl (hw _ (List.mem_of_getElem? (i := 24) rfl))) (by decide) (t := (.array .int)) (t' := .int) (by decide) (by decide))))
  obtain ⟨T5, X5, e5, st5⟩ := getF X2 hx hZ hown (host := "") (Or.inl (hw _ (List.mem_of_getElem? (i := 11) rfl))) Via.refl e2 f4 (g := (mkF m 11 #[.val (.ref a1)] [(.ref a1)])) rfl rfl (hb hby d11_11)
  refine own_go st5 ?_
  show own_G p.tables e below T5 (mkF m 14 #[.val (.ref a1)] [(.ref aR)]) _
  refine own_go (fun t_ k_ => XS.aloadN X5.here hx rfl (hb hby d11_14) rfl rfl k_) ?_
  show own_G p.tables e below T5 (mkF m 15 #[.val (.ref a1)] [(.ref a1), (.ref aR)]) _
  obtain ⟨T6, X6, e6, st6⟩ := getF X5 hx hZ hown (host := "") (Or.inl (hw _ (List.mem_of_getElem? (i := 23) rfl))) Via.refl e5 f3 (g := (mkF m 15 #[.val (.ref a1)] [(.ref a1), (.ref aR)])) rfl rfl (hb hby d11_15)
  refine own_go st6 ?_
  show own_G p.tables e below T6 (mkF m 18 #[.val (.ref a1)] [(.int (0 : Int32)), (.ref aR)]) _
  have f7 : Arv Z h2 aR kR .int (8 : Int32) [(.int R0), (.int R1), (.int (0 : Int32)), (.int (0 : Int32)), (.int (0 : Int32)), (.int (0 : Int32)), (.int (0 : Int32)), (.int (0 : Int32))] (.int (0 : Int32)) := (V_refused.other W2 (Ne.symm n1R))
  obtain ⟨cl8, Ar8, -, S8, M8, H8, -⟩ := id f7
  have hin8_18 : ¬ ((0 : Int32) < 0 ∨ cl8.slots.size ≤ ((0 : Int32)).toNatClampNeg) := inb_of S8 ⟨by decide, by decide⟩
  refine own_go (fun t_ k_ => X6.iaload hx (j := (0 : Int32)) (v := (.int R0)) (by rw [e6]; exact Ar8.1) (State.isArrayOf_alike hZ.alike Ar8.2.1) Ar8.2.2 hin8_18 (H8.at hin8_18 rfl) (g := (mkF m 18 #[.val (.ref a1)] [(.int (0 : Int32)), (.ref aR)])) rfl rfl (hb hby d11_18) _ k_) ?_
  show own_G p.tables e below T6 (mkF m 19 #[.val (.ref a1)] [(.int R0)]) _
  have f9 : Keep h0 h2 [a1] := ((Keep.refl h0 [a1]).wr W2 (Or.inl (List.mem_of_getElem? (i := 0) rfl)))
  have f10 : Exa Z h2 a1 "com/example/einzug/einzug/core/TextCharacters" := (E1.wr W2)
  exact own_end (v := some (.int R0)) X6 Bd.notSynchronized (fun h => by rw [Bd.returns] at h; cases h) (fun fs hr => retI X6 hx Bd.returns (hb hby d11_19) hr) e6 ⟨rfl, N2, f9, f10, f3, f4, fun f d v _ F q => F.other W2 (Or.inr q)⟩ (by decide) (by decide)
theorem ef_11d2 (m : MethodId) (a1 : Addr) : entryFrame m #[(.ref a1)] 1 = mkF m 0 #[.val (.ref a1)] [] := by first | (simp [entryFrame, mkF, argsToLocals, Value.category]; done) | rfl
def Q11d2 (Z : State) (a1 : Addr) (aR : Addr) (kR : ClassId) (R0 R1 : Int32) (h0 : Heap) (n0 : Nat) (v : Option Value) (h : Heap) (L : List Loc) : Prop := v = some (.int R1) ∧ Fr n0 L ∧ Keep h0 h [a1] ∧ Exa Z h a1 "com/example/einzug/einzug/core/TextCharacters" ∧ Fld Z h a1 "com/example/einzug/einzug/core/TextCharacters" "depth" "I" (.int (1 : Int32)) ∧ Fld Z h a1 "com/example/einzug/einzug/core/TextCharacters" "refused" "[I" (.ref aR) ∧ ∀ (f d : String) (v : Value), f ≠ "depth" → Fld Z h0 a1 "com/example/einzug/einzug/core/TextCharacters" f d v → Jvm.RoadKit.slotOf Z "com/example/einzug/einzug/core/TextCharacters" f d ≠ Jvm.RoadKit.slotOf Z "com/example/einzug/einzug/core/TextCharacters" "depth" "I" → Fld Z h a1 "com/example/einzug/einzug/core/TextCharacters" f d v
set_option maxRecDepth 65536 in
set_option maxHeartbeats 40000000 in
theorem rm11d2 (l : Launch) (Z : State) (a0 : Array Value) (hw : ∀ d ∈ tables_1, d.before a0 Z = true) (ws : List Jvm.Cond) (a1 : Addr) (aR : Addr) (kR : ClassId) (R0 R1 : Int32) (h0 : Heap) (n0 : Nat) (Z0 : n0 ≤ h0.size) (ge1 : n0 ≤ a1) (E1 : Exa Z h0 a1 "com/example/einzug/einzug/core/TextCharacters") (F_depth : Fld Z h0 a1 "com/example/einzug/einzug/core/TextCharacters" "depth" "I" (.int (2 : Int32))) (F_refused : Fld Z h0 a1 "com/example/einzug/einzug/core/TextCharacters" "refused" "[I" (.ref aR)) (V_refused : Arv Z h0 aR kR .int (8 : Int32) [(.int R0), (.int R1), (.int (0 : Int32)), (.int (0 : Int32)), (.int (0 : Int32)), (.int (0 : Int32)), (.int (0 : Int32)), (.int (0 : Int32))] (.int (0 : Int32))) (n1R : a1 ≠ aR) :
    MetFree l (⟨"com/example/einzug/einzug/core/TextCharacters", "close", "()I"⟩ : MethodName) (head1 (Jvm.Cond.code (⟨"com/example/einzug/einzug/core/TextCharacters", "close", "()I"⟩ : MethodName) prog_145_method_4_code 1 (some .int) :: ws) ({ frames := 0, cells := 0, slots := 0, locals := 0 } : Room)) (fun a U => a = #[(.ref a1)] ∧ Z.Warmed39 U.vm ∧ U.heap = h0) (fun _ _ _ _ _ => True) (fun _ U o U' => ∃ v L, o = .returned v ∧ Q11d2 Z a1 aR kR R0 R1 h0 n0 v U'.heap L ∧ FrameEnd U o U' L ({ frames := 0, cells := 0, slots := 0, locals := 0 } : Room).cells ({ frames := 0, cells := 0, slots := 0, locals := 0 } : Room).slots) := by
  refine MetFree.of_bodySF (plainFor_of_name own_pn4) hisR ?_
  intro p e s m args below meth c s₁ Bd hml0 hP hK
  obtain ⟨rfl, hZ, hh⟩ := hP
  have hx := Bd.exec
  have hby := Bd.bytes
  have hml : c.maxLocals = 1 := hml0
  have hown : s.vm.findClass "com/example/einzug/einzug/core/TextCharacters" = some m.cls := findClass_of_methodNamed Bd.named
  have hnm := (name_of_methodNamed Bd.named Bd.method).1
  have X0 : Stand p l e ({ frames := 0, cells := 0, slots := 0, locals := 0 } : Room) s m #[(.ref a1)] below meth c s₁ [] 0 0 := Stand.of_body Bd
  have e0 : s₁.heap = h0 := by rw [← hh, Bd.state]; rfl
  have N0 := Fr.nil n0
  refine own_top (Q := Q11d2 Z a1 aR kR R0 R1 h0 n0) (ef_11d2 m a1) ?_
  show own_G p.tables e below s₁ (mkF m 0 #[.val (.ref a1)] []) _
  refine own_go (fun t_ k_ => XS.aloadN X0.here hx rfl (hb hby d11_0) rfl rfl k_) ?_
  show own_G p.tables e below s₁ (mkF m 1 #[.val (.ref a1)] [(.ref a1)]) _
  refine own_go (fun t_ k_ => XS.dup X0.here hx rfl (hb hby d11_1) rfl rfl k_) ?_
  show own_G p.tables e below s₁ (mkF m 2 #[.val (.ref a1)] [(.ref a1), (.ref a1)]) _
  obtain ⟨T1, X1, e1, st1⟩ := getF X0 hx hZ hown (host := "") (Or.inl (hw _ (List.mem_of_getElem? (i := 23) rfl))) Via.refl e0 F_depth (g := (mkF m 2 #[.val (.ref a1)] [(.ref a1), (.ref a1)])) rfl rfl (hb hby d11_2)
  refine own_go st1 ?_
  show own_G p.tables e below T1 (mkF m 5 #[.val (.ref a1)] [(.int (2 : Int32)), (.ref a1)]) _
  refine own_go (fun t_ k_ => XS.iconst X1.here hx rfl (hb hby d11_5) k_) ?_
  show own_G p.tables e below T1 (mkF m 6 #[.val (.ref a1)] [(.int (1 : Int32)), (.int (2 : Int32)), (.ref a1)]) _
  refine own_go (fun t_ k_ => XS.isub X1.here hx rfl (hb hby d11_6) rfl k_) ?_
  show own_G p.tables e below T1 (mkF m 7 #[.val (.ref a1)] [(.int (1 : Int32)), (.ref a1)]) _
  obtain ⟨T2, h2, X2, e2, W2, st2⟩ := putF X1 hx hZ hown (host := "") (Or.inl (hw _ (List.mem_of_getElem? (i := 23) rfl))) Via.refl e1 F_depth E1 (Or.inl (hw _ (List.mem_of_getElem? (i := 24) rfl))) (hw _ (List.mem_of_getElem? (i := 2) rfl)) (ty := .int) (by decide) rfl rfl (g := (mkF m 7 #[.val (.ref a1)] [(.int (1 : Int32)), (.ref a1)])) rfl rfl (hb hby d11_7)
  have N2 := Fr.snoc X2 N0 ge1
  refine own_go st2 ?_
  show own_G p.tables e below T2 (mkF m 10 #[.val (.ref a1)] []) _
  have f3 : Fld Z h2 a1 "com/example/einzug/einzug/core/TextCharacters" "depth" "I" (.int (1 : Int32)) := F_depth.same W2
  refine own_go (fun t_ k_ => XS.aloadN X2.here hx rfl (hb hby d11_10) rfl rfl k_) ?_
  show own_G p.tables e below T2 (mkF m 11 #[.val (.ref a1)] [(.ref a1)]) _
  have f4 : Fld Z h2 a1 "com/example/einzug/einzug/core/TextCharacters" "refused" "[I" (.ref aR) := (F_refused.other W2 (Or.inr (slot_ne (Or.inl (hw _ (List.mem_of_getElem? (i := 12) rfl))) (Or.inl (hw _ (List.mem_of_getElem? (i := 24) rfl))) (by decide) (t := (.array .int)) (t' := .int) (by decide) (by decide))))
  obtain ⟨T5, X5, e5, st5⟩ := getF X2 hx hZ hown (host := "") (Or.inl (hw _ (List.mem_of_getElem? (i := 11) rfl))) Via.refl e2 f4 (g := (mkF m 11 #[.val (.ref a1)] [(.ref a1)])) rfl rfl (hb hby d11_11)
  refine own_go st5 ?_
  show own_G p.tables e below T5 (mkF m 14 #[.val (.ref a1)] [(.ref aR)]) _
  refine own_go (fun t_ k_ => XS.aloadN X5.here hx rfl (hb hby d11_14) rfl rfl k_) ?_
  show own_G p.tables e below T5 (mkF m 15 #[.val (.ref a1)] [(.ref a1), (.ref aR)]) _
  obtain ⟨T6, X6, e6, st6⟩ := getF X5 hx hZ hown (host := "") (Or.inl (hw _ (List.mem_of_getElem? (i := 23) rfl))) Via.refl e5 f3 (g := (mkF m 15 #[.val (.ref a1)] [(.ref a1), (.ref aR)])) rfl rfl (hb hby d11_15)
  refine own_go st6 ?_
  show own_G p.tables e below T6 (mkF m 18 #[.val (.ref a1)] [(.int (1 : Int32)), (.ref aR)]) _
  have f7 : Arv Z h2 aR kR .int (8 : Int32) [(.int R0), (.int R1), (.int (0 : Int32)), (.int (0 : Int32)), (.int (0 : Int32)), (.int (0 : Int32)), (.int (0 : Int32)), (.int (0 : Int32))] (.int (0 : Int32)) := (V_refused.other W2 (Ne.symm n1R))
  obtain ⟨cl8, Ar8, -, S8, M8, H8, -⟩ := id f7
  have hin8_18 : ¬ ((1 : Int32) < 0 ∨ cl8.slots.size ≤ ((1 : Int32)).toNatClampNeg) := inb_of S8 ⟨by decide, by decide⟩
  refine own_go (fun t_ k_ => X6.iaload hx (j := (1 : Int32)) (v := (.int R1)) (by rw [e6]; exact Ar8.1) (State.isArrayOf_alike hZ.alike Ar8.2.1) Ar8.2.2 hin8_18 (H8.at hin8_18 rfl) (g := (mkF m 18 #[.val (.ref a1)] [(.int (1 : Int32)), (.ref aR)])) rfl rfl (hb hby d11_18) _ k_) ?_
  show own_G p.tables e below T6 (mkF m 19 #[.val (.ref a1)] [(.int R1)]) _
  have f9 : Keep h0 h2 [a1] := ((Keep.refl h0 [a1]).wr W2 (Or.inl (List.mem_of_getElem? (i := 0) rfl)))
  have f10 : Exa Z h2 a1 "com/example/einzug/einzug/core/TextCharacters" := (E1.wr W2)
  exact own_end (v := some (.int R1)) X6 Bd.notSynchronized (fun h => by rw [Bd.returns] at h; cases h) (fun fs hr => retI X6 hx Bd.returns (hb hby d11_19) hr) e6 ⟨rfl, N2, f9, f10, f3, f4, fun f d v _ F q => F.other W2 (Or.inr q)⟩ (by decide) (by decide)
theorem d4_0 : decode prog_145_method_3_code 0 = .ok (.aload_n 0, 1) := by decide +kernel
theorem d4_1 : decode prog_145_method_3_code 1 = .ok (.getfield 20, 3) := by decide +kernel
theorem d4_4 : decode prog_145_method_3_code 4 = .ok (.iconst 1, 1) := by decide +kernel
theorem d4_5 : decode prog_145_method_3_code 5 = .ok (.isub, 1) := by decide +kernel
theorem d4_6 : decode prog_145_method_3_code 6 = .ok (.istore 4, 2) := by decide +kernel
theorem d4_8 : decode prog_145_method_3_code 8 = .ok (.aload_n 0, 1) := by decide +kernel
theorem d4_9 : decode prog_145_method_3_code 9 = .ok (.getfield 7, 3) := by decide +kernel
theorem d4_12 : decode prog_145_method_3_code 12 = .ok (.iload 4, 2) := by decide +kernel
theorem d4_14 : decode prog_145_method_3_code 14 = .ok (.iaload, 1) := by decide +kernel
theorem d4_15 : decode prog_145_method_3_code 15 = .ok (.istore 5, 2) := by decide +kernel
theorem d4_17 : decode prog_145_method_3_code 17 = .ok (.aload_n 0, 1) := by decide +kernel
theorem d4_18 : decode prog_145_method_3_code 18 = .ok (.getfield 13, 3) := by decide +kernel
theorem d4_21 : decode prog_145_method_3_code 21 = .ok (.iload 4, 2) := by decide +kernel
theorem d4_23 : decode prog_145_method_3_code 23 = .ok (.baload, 1) := by decide +kernel
theorem d4_24 : decode prog_145_method_3_code 24 = .ok (.istore 6, 2) := by decide +kernel
theorem d4_26 : decode prog_145_method_3_code 26 = .ok (.aload_n 0, 1) := by decide +kernel
theorem d4_27 : decode prog_145_method_3_code 27 = .ok (.getfield 17, 3) := by decide +kernel
theorem d4_30 : decode prog_145_method_3_code 30 = .ok (.iload 4, 2) := by decide +kernel
theorem d4_32 : decode prog_145_method_3_code 32 = .ok (.iaload, 1) := by decide +kernel
theorem d4_33 : decode prog_145_method_3_code 33 = .ok (.istore 7, 2) := by decide +kernel
theorem d4_35 : decode prog_145_method_3_code 35 = .ok (.iload_n 2, 1) := by decide +kernel
theorem d4_36 : decode prog_145_method_3_code 36 = .ok (.iload_n 3, 1) := by decide +kernel
theorem d4_37 : decode prog_145_method_3_code 37 = .ok (.iadd, 1) := by decide +kernel
theorem d4_38 : decode prog_145_method_3_code 38 = .ok (.istore 8, 2) := by decide +kernel
theorem d4_40 : decode prog_145_method_3_code 40 = .ok (.iload_n 2, 1) := by decide +kernel
theorem d4_41 : decode prog_145_method_3_code 41 = .ok (.istore 9, 2) := by decide +kernel
theorem d4_43 : decode prog_145_method_3_code 43 = .ok (.iload 9, 2) := by decide +kernel
theorem d4_45 : decode prog_145_method_3_code 45 = .ok (.iload 8, 2) := by decide +kernel
theorem d4_47 : decode prog_145_method_3_code 47 = .ok (.if_icmp .ge 104, 3) := by decide +kernel
theorem d4_50 : decode prog_145_method_3_code 50 = .ok (.iload 5, 2) := by decide +kernel
theorem d4_52 : decode prog_145_method_3_code 52 = .ok (.iconst (-1), 1) := by decide +kernel
theorem d4_53 : decode prog_145_method_3_code 53 = .ok (.if_icmp .ne 98, 3) := by decide +kernel
theorem d4_56 : decode prog_145_method_3_code 56 = .ok (.aload_n 1, 1) := by decide +kernel
theorem d4_57 : decode prog_145_method_3_code 57 = .ok (.iload 9, 2) := by decide +kernel
theorem d4_59 : decode prog_145_method_3_code 59 = .ok (.caload, 1) := by decide +kernel
theorem d4_60 : decode prog_145_method_3_code 60 = .ok (.istore 10, 2) := by decide +kernel
theorem d4_62 : decode prog_145_method_3_code 62 = .ok (.iload 10, 2) := by decide +kernel
theorem d4_64 : decode prog_145_method_3_code 64 = .ok (.invokestatic 33, 3) := by decide +kernel
theorem d4_67 : decode prog_145_method_3_code 67 = .ok (.ifCond .eq 28, 3) := by decide +kernel
theorem d4_70 : decode prog_145_method_3_code 70 = .ok (.iload 6, 2) := by decide +kernel
theorem d4_72 : decode prog_145_method_3_code 72 = .ok (.ifCond .eq 73, 3) := by decide +kernel
theorem d4_75 : decode prog_145_method_3_code 75 = .ok (.iload 10, 2) := by decide +kernel
theorem d4_77 : decode prog_145_method_3_code 77 = .ok (.bipush 32, 2) := by decide +kernel
theorem d4_79 : decode prog_145_method_3_code 79 = .ok (.if_icmp .eq 66, 3) := by decide +kernel
theorem d4_82 : decode prog_145_method_3_code 82 = .ok (.iload 7, 2) := by decide +kernel
theorem d4_84 : decode prog_145_method_3_code 84 = .ok (.iconst (-1), 1) := by decide +kernel
theorem d4_85 : decode prog_145_method_3_code 85 = .ok (.if_icmp .ne 60, 3) := by decide +kernel
theorem d4_88 : decode prog_145_method_3_code 88 = .ok (.iload 10, 2) := by decide +kernel
theorem d4_90 : decode prog_145_method_3_code 90 = .ok (.istore 7, 2) := by decide +kernel
theorem d4_92 : decode prog_145_method_3_code 92 = .ok (.goto 53, 3) := by decide +kernel
theorem d4_95 : decode prog_145_method_3_code 95 = .ok (.iload 7, 2) := by decide +kernel
theorem d4_97 : decode prog_145_method_3_code 97 = .ok (.iconst (-1), 1) := by decide +kernel
theorem d4_98 : decode prog_145_method_3_code 98 = .ok (.if_icmp .eq 10, 3) := by decide +kernel
theorem d4_101 : decode prog_145_method_3_code 101 = .ok (.iload 7, 2) := by decide +kernel
theorem d4_103 : decode prog_145_method_3_code 103 = .ok (.istore 5, 2) := by decide +kernel
theorem d4_105 : decode prog_145_method_3_code 105 = .ok (.goto 40, 3) := by decide +kernel
theorem d4_108 : decode prog_145_method_3_code 108 = .ok (.iconst 1, 1) := by decide +kernel
theorem d4_109 : decode prog_145_method_3_code 109 = .ok (.istore 6, 2) := by decide +kernel
theorem d4_111 : decode prog_145_method_3_code 111 = .ok (.aload_n 1, 1) := by decide +kernel
theorem d4_112 : decode prog_145_method_3_code 112 = .ok (.iload 9, 2) := by decide +kernel
theorem d4_114 : decode prog_145_method_3_code 114 = .ok (.iload 8, 2) := by decide +kernel
theorem d4_116 : decode prog_145_method_3_code 116 = .ok (.invokestatic 39, 3) := by decide +kernel
theorem d4_119 : decode prog_145_method_3_code 119 = .ok (.istore 11, 2) := by decide +kernel
theorem d4_121 : decode prog_145_method_3_code 121 = .ok (.iload 9, 2) := by decide +kernel
theorem d4_123 : decode prog_145_method_3_code 123 = .ok (.iload 11, 2) := by decide +kernel
theorem d4_125 : decode prog_145_method_3_code 125 = .ok (.invokestatic 45, 3) := by decide +kernel
theorem d4_128 : decode prog_145_method_3_code 128 = .ok (.iconst 1, 1) := by decide +kernel
theorem d4_129 : decode prog_145_method_3_code 129 = .ok (.isub, 1) := by decide +kernel
theorem d4_130 : decode prog_145_method_3_code 130 = .ok (.iadd, 1) := by decide +kernel
theorem d4_131 : decode prog_145_method_3_code 131 = .ok (.istore 9, 2) := by decide +kernel
theorem d4_133 : decode prog_145_method_3_code 133 = .ok (.iload 11, 2) := by decide +kernel
theorem d4_135 : decode prog_145_method_3_code 135 = .ok (.invokestatic 49, 3) := by decide +kernel
theorem d4_138 : decode prog_145_method_3_code 138 = .ok (.ifCond .ne 7, 3) := by decide +kernel
theorem d4_141 : decode prog_145_method_3_code 141 = .ok (.iload 11, 2) := by decide +kernel
theorem d4_143 : decode prog_145_method_3_code 143 = .ok (.istore 5, 2) := by decide +kernel
theorem d4_145 : decode prog_145_method_3_code 145 = .ok (.iinc 9 1, 3) := by decide +kernel
theorem d4_148 : decode prog_145_method_3_code 148 = .ok (.goto (-105), 3) := by decide +kernel
theorem d4_151 : decode prog_145_method_3_code 151 = .ok (.aload_n 0, 1) := by decide +kernel
theorem d4_152 : decode prog_145_method_3_code 152 = .ok (.getfield 7, 3) := by decide +kernel
theorem d4_155 : decode prog_145_method_3_code 155 = .ok (.iload 4, 2) := by decide +kernel
theorem d4_157 : decode prog_145_method_3_code 157 = .ok (.iload 5, 2) := by decide +kernel
theorem d4_159 : decode prog_145_method_3_code 159 = .ok (.iastore, 1) := by decide +kernel
theorem d4_160 : decode prog_145_method_3_code 160 = .ok (.aload_n 0, 1) := by decide +kernel
theorem d4_161 : decode prog_145_method_3_code 161 = .ok (.getfield 13, 3) := by decide +kernel
theorem d4_164 : decode prog_145_method_3_code 164 = .ok (.iload 4, 2) := by decide +kernel
theorem d4_166 : decode prog_145_method_3_code 166 = .ok (.iload 6, 2) := by decide +kernel
theorem d4_168 : decode prog_145_method_3_code 168 = .ok (.bastore, 1) := by decide +kernel
theorem d4_169 : decode prog_145_method_3_code 169 = .ok (.aload_n 0, 1) := by decide +kernel
theorem d4_170 : decode prog_145_method_3_code 170 = .ok (.getfield 17, 3) := by decide +kernel
theorem d4_173 : decode prog_145_method_3_code 173 = .ok (.iload 4, 2) := by decide +kernel
theorem d4_175 : decode prog_145_method_3_code 175 = .ok (.iload 7, 2) := by decide +kernel
theorem d4_177 : decode prog_145_method_3_code 177 = .ok (.iastore, 1) := by decide +kernel
theorem d4_178 : decode prog_145_method_3_code 178 = .ok (.return_, 1) := by decide +kernel
theorem ef_4n2d1 (m : MethodId) (a1 : Addr) (ar : Addr) : entryFrame m #[(.ref a1), (.ref ar), (.int (0 : Int32)), (.int (2 : Int32))] 12 = mkF m 0 #[.val (.ref a1), .val (.ref ar), .val (.int (0 : Int32)), .val (.int (2 : Int32)), .unset, .unset, .unset, .unset, .unset, .unset, .unset, .unset] [] := by first | (simp [entryFrame, mkF, argsToLocals, Value.category]; done) | rfl
def Q4n2d1 (Z : State) (a1 : Addr) (ar : Addr) (aR aS aD : Addr) (kR kS kD : ClassId) (R0 R1 S0 S1 D0 D1 : Int32) (ka : ClassId) (c0 c1 : Int32) (aP : Addr) (clP : Cell) (h0 : Heap) (n0 : Nat) (v : Option Value) (h : Heap) (L : List Loc) : Prop := v = none ∧ Fr n0 L ∧ Keep h0 h [aR, aS, aD] ∧ Arv Z h aR kR .int (8 : Int32) [(.int (own_run [c0, c1] (R0, S0, D0)).1), (.int R1), (.int (0 : Int32)), (.int (0 : Int32)), (.int (0 : Int32)), (.int (0 : Int32)), (.int (0 : Int32)), (.int (0 : Int32))] (.int (0 : Int32)) ∧ Arv Z h aS kS .boolean (8 : Int32) [(.int (own_run [c0, c1] (R0, S0, D0)).2.1), (.int S1), (.int (0 : Int32)), (.int (0 : Int32)), (.int (0 : Int32)), (.int (0 : Int32)), (.int (0 : Int32)), (.int (0 : Int32))] (.int (0 : Int32)) ∧ Arv Z h aD kD .int (8 : Int32) [(.int (own_run [c0, c1] (R0, S0, D0)).2.2), (.int D1), (.int (0 : Int32)), (.int (0 : Int32)), (.int (0 : Int32)), (.int (0 : Int32)), (.int (0 : Int32)), (.int (0 : Int32))] (.int (0 : Int32))
set_option maxRecDepth 65536 in
set_option maxHeartbeats 40000000 in
theorem rm4n2d1 (l : Launch) (Z : State) (a0 : Array Value) (hw : ∀ d ∈ tables_1, d.before a0 Z = true) (ws : List Jvm.Cond) (a1 : Addr) (ar : Addr) (aR aS aD : Addr) (kR kS kD : ClassId) (R0 R1 S0 S1 D0 D1 : Int32) (ka : ClassId) (c0 c1 : Int32) (aP : Addr) (clP : Cell) (h0 : Heap) (n0 : Nat) (Z0 : n0 ≤ h0.size) (S_P : Sta Z h0 "com/example/einzug/einzug/rules/PermittedCharacters" "PERMITTED" "[Z" (.ref aP)) (Ar_P : Arr Z h0 aP clP .boolean) (sz_P : clP.slots.size = 256) (tab_P : ∀ k, k < 256 → clP.slots[k]? = some (.int (own_perm k))) (E1 : Exa Z h0 a1 "com/example/einzug/einzug/core/TextCharacters") (F_depth : Fld Z h0 a1 "com/example/einzug/einzug/core/TextCharacters" "depth" "I" (.int (1 : Int32))) (F_refused : Fld Z h0 a1 "com/example/einzug/einzug/core/TextCharacters" "refused" "[I" (.ref aR)) (F_started : Fld Z h0 a1 "com/example/einzug/einzug/core/TextCharacters" "started" "[Z" (.ref aS)) (F_pending : Fld Z h0 a1 "com/example/einzug/einzug/core/TextCharacters" "pending" "[I" (.ref aD)) (V_refused : Arv Z h0 aR kR .int (8 : Int32) [(.int R0), (.int R1), (.int (0 : Int32)), (.int (0 : Int32)), (.int (0 : Int32)), (.int (0 : Int32)), (.int (0 : Int32)), (.int (0 : Int32))] (.int (0 : Int32))) (V_started : Arv Z h0 aS kS .boolean (8 : Int32) [(.int S0), (.int S1), (.int (0 : Int32)), (.int (0 : Int32)), (.int (0 : Int32)), (.int (0 : Int32)), (.int (0 : Int32)), (.int (0 : Int32))] (.int (0 : Int32))) (V_pending : Arv Z h0 aD kD .int (8 : Int32) [(.int D0), (.int D1), (.int (0 : Int32)), (.int (0 : Int32)), (.int (0 : Int32)), (.int (0 : Int32)), (.int (0 : Int32)), (.int (0 : Int32))] (.int (0 : Int32))) (nRS : aR ≠ aS) (nRD : aR ≠ aD) (nSD : aS ≠ aD) (n1R : a1 ≠ aR) (n1S : a1 ≠ aS) (n1D : a1 ≠ aD) (geR : n0 ≤ aR) (geS : n0 ≤ aS) (geD : n0 ≤ aD) (V_ar : Arv Z h0 ar ka .char (2 : Int32) [(.int c0), (.int c1)] (.int (0 : Int32))) (hst : S0 = 0 ∨ S0 = 1) (hc_c0 : ¬ (255 : Int32) < c0) (hc_c1 : ¬ (255 : Int32) < c1) :
    MetFree l (⟨"com/example/einzug/einzug/core/TextCharacters", "characters", "([CII)V"⟩ : MethodName) (head1 (Jvm.Cond.code (⟨"com/example/einzug/einzug/core/TextCharacters", "characters", "([CII)V"⟩ : MethodName) prog_145_method_3_code 12 none :: ws) ({ frames := 3, cells := 0, slots := 0, locals := 42 } : Room)) (fun a U => a = #[(.ref a1), (.ref ar), (.int (0 : Int32)), (.int (2 : Int32))] ∧ Z.Warmed39 U.vm ∧ U.heap = h0) (fun _ _ _ _ _ => True) (fun _ U o U' => ∃ v L, o = .returned v ∧ Q4n2d1 Z a1 ar aR aS aD kR kS kD R0 R1 S0 S1 D0 D1 ka c0 c1 aP clP h0 n0 v U'.heap L ∧ FrameEnd U o U' L ({ frames := 3, cells := 0, slots := 0, locals := 42 } : Room).cells ({ frames := 3, cells := 0, slots := 0, locals := 42 } : Room).slots) := by
  refine MetFree.of_bodySF (plainFor_of_name own_pn4) hisR ?_
  intro p e s m args below meth c s₁ Bd hml0 hP hK
  obtain ⟨rfl, hZ, hh⟩ := hP
  have hx := Bd.exec
  have hby := Bd.bytes
  have hml : c.maxLocals = 12 := hml0
  have hown : s.vm.findClass "com/example/einzug/einzug/core/TextCharacters" = some m.cls := findClass_of_methodNamed Bd.named
  have hnm := (name_of_methodNamed Bd.named Bd.method).1
  have X0 : Stand p l e ({ frames := 3, cells := 0, slots := 0, locals := 42 } : Room) s m #[(.ref a1), (.ref ar), (.int (0 : Int32)), (.int (2 : Int32))] below meth c s₁ [] 0 0 := Stand.of_body Bd
  have e0 : s₁.heap = h0 := by rw [← hh, Bd.state]; rfl
  have N0 := Fr.nil n0
  refine own_top (Q := Q4n2d1 Z a1 ar aR aS aD kR kS kD R0 R1 S0 S1 D0 D1 ka c0 c1 aP clP h0 n0) (ef_4n2d1 m a1 ar) ?_
  obtain ⟨clA, ArA, -, SzA, MzA, HA, -⟩ := V_ar
  have hinA0 : ¬ ((0 : Int32) < 0 ∨ clA.slots.size ≤ (0 : Int32).toNatClampNeg) := inb_of SzA ⟨by decide, by decide⟩
  have hatA0 : clA.slots[(0 : Int32).toNatClampNeg]? = some (.int c0) := HA.at hinA0 rfl
  have hinA1 : ¬ ((1 : Int32) < 0 ∨ clA.slots.size ≤ (1 : Int32).toNatClampNeg) := inb_of SzA ⟨by decide, by decide⟩
  have hatA1 : clA.slots[(1 : Int32).toNatClampNeg]? = some (.int c1) := HA.at hinA1 rfl
  have exit : ∀ (i9 : Int32), ∀ (r st' pd : Int32) (s10 s11 : Slot) (Tt : State) (locs : List Loc), Stand p l e ({ frames := 3, cells := 0, slots := 0, locals := 42 } : Room) s m #[(.ref a1), (.ref ar), (.int (0 : Int32)), (.int (2 : Int32))] below meth c Tt locs 0 0 → Tt.heap = h0 → Fr n0 locs → One s10 → One s11 → (st' = 0 ∨ st' = 1) → (own_run [c0, c1] (R0, S0, D0)) = (r, st', pd) → own_G p.tables e below Tt (mkF m 151 #[.val (.ref a1), .val (.ref ar), .val (.int (0 : Int32)), .val (.int (2 : Int32)), .val (.int (0 : Int32)), .val (.int r), .val (.int st'), .val (.int pd), .val (.int (2 : Int32)), .val (.int i9), s10, s11] []) (own_P below s (Q4n2d1 Z a1 ar aR aS aD kR kS kD R0 R1 S0 S1 D0 D1 ka c0 c1 aP clP h0 n0) (({ frames := 3, cells := 0, slots := 0, locals := 42 } : Room)).cells (({ frames := 3, cells := 0, slots := 0, locals := 42 } : Room)).slots) := by
    intro i9
    intro r st' pd s10 s11 Tt locs Xt et Nt h10 h11 hs hrun
    show own_G p.tables e below Tt (mkF m 151 #[.val (.ref a1), .val (.ref ar), .val (.int (0 : Int32)), .val (.int (2 : Int32)), .val (.int (0 : Int32)), .val (.int r), .val (.int st'), .val (.int pd), .val (.int (2 : Int32)), .val (.int i9), s10, s11] []) _
    refine own_go (fun t_ k_ => XS.aloadN Xt.here hx rfl (hb hby d4_151) rfl rfl k_) ?_
    show own_G p.tables e below Tt (mkF m 152 #[.val (.ref a1), .val (.ref ar), .val (.int (0 : Int32)), .val (.int (2 : Int32)), .val (.int (0 : Int32)), .val (.int r), .val (.int st'), .val (.int pd), .val (.int (2 : Int32)), .val (.int i9), s10, s11] [(.ref a1)]) _
    obtain ⟨T1, X1, e1, st1⟩ := getF Xt hx hZ hown (host := "") (Or.inl (hw _ (List.mem_of_getElem? (i := 11) rfl))) Via.refl et F_refused (g := (mkF m 152 #[.val (.ref a1), .val (.ref ar), .val (.int (0 : Int32)), .val (.int (2 : Int32)), .val (.int (0 : Int32)), .val (.int r), .val (.int st'), .val (.int pd), .val (.int (2 : Int32)), .val (.int i9), s10, s11] [(.ref a1)])) rfl rfl (hb hby d4_152)
    refine own_go st1 ?_
    show own_G p.tables e below T1 (mkF m 155 #[.val (.ref a1), .val (.ref ar), .val (.int (0 : Int32)), .val (.int (2 : Int32)), .val (.int (0 : Int32)), .val (.int r), .val (.int st'), .val (.int pd), .val (.int (2 : Int32)), .val (.int i9), s10, s11] [(.ref aR)]) _
    refine own_go (fun t_ k_ => XS.iload X1.here hx rfl (hb hby d4_155) rfl k_) ?_
    show own_G p.tables e below T1 (mkF m 157 #[.val (.ref a1), .val (.ref ar), .val (.int (0 : Int32)), .val (.int (2 : Int32)), .val (.int (0 : Int32)), .val (.int r), .val (.int st'), .val (.int pd), .val (.int (2 : Int32)), .val (.int i9), s10, s11] [(.int (0 : Int32)), (.ref aR)]) _
    refine own_go (fun t_ k_ => XS.iload X1.here hx rfl (hb hby d4_157) rfl k_) ?_
    show own_G p.tables e below T1 (mkF m 159 #[.val (.ref a1), .val (.ref ar), .val (.int (0 : Int32)), .val (.int (2 : Int32)), .val (.int (0 : Int32)), .val (.int r), .val (.int st'), .val (.int pd), .val (.int (2 : Int32)), .val (.int i9), s10, s11] [(.int r), (.int (0 : Int32)), (.ref aR)]) _
    obtain ⟨cl2, Ar2, q2, S2, M2, H2, G2⟩ := id V_refused
    have hin2 : ¬ ((0 : Int32) < 0 ∨ cl2.slots.size ≤ ((0 : Int32)).toNatClampNeg) := inb_of S2 ⟨by decide, by decide⟩
    obtain ⟨T2, h2, X2, e2, W2, st2⟩ := stI X1 hx hZ e1 Ar2 (j := (0 : Int32)) hin2 (g := (mkF m 159 #[.val (.ref a1), .val (.ref ar), .val (.int (0 : Int32)), .val (.int (2 : Int32)), .val (.int (0 : Int32)), .val (.int r), .val (.int st'), .val (.int pd), .val (.int (2 : Int32)), .val (.int i9), s10, s11] [(.int r), (.int (0 : Int32)), (.ref aR)])) rfl rfl (hb hby d4_159)
    have N2 := Fr.snoc X2 Nt geR
    have V2 : Arv Z h2 aR kR .int (8 : Int32) [(.int r), (.int R1), (.int (0 : Int32)), (.int (0 : Int32)), (.int (0 : Int32)), (.int (0 : Int32)), (.int (0 : Int32)), (.int (0 : Int32))] (.int (0 : Int32)) := by
      have q := Arv.set Ar2 q2 S2 M2 H2 G2 rfl W2 0 rfl (Nat.le_of_ble_eq_true rfl)
      exact q
    refine own_go st2 ?_
    show own_G p.tables e below T2 (mkF m 160 #[.val (.ref a1), .val (.ref ar), .val (.int (0 : Int32)), .val (.int (2 : Int32)), .val (.int (0 : Int32)), .val (.int r), .val (.int st'), .val (.int pd), .val (.int (2 : Int32)), .val (.int i9), s10, s11] []) _
    refine own_go (fun t_ k_ => XS.aloadN X2.here hx rfl (hb hby d4_160) rfl rfl k_) ?_
    show own_G p.tables e below T2 (mkF m 161 #[.val (.ref a1), .val (.ref ar), .val (.int (0 : Int32)), .val (.int (2 : Int32)), .val (.int (0 : Int32)), .val (.int r), .val (.int st'), .val (.int pd), .val (.int (2 : Int32)), .val (.int i9), s10, s11] [(.ref a1)]) _
    have f3 : Fld Z h2 a1 "com/example/einzug/einzug/core/TextCharacters" "started" "[Z" (.ref aS) := (F_started.other W2 (Or.inl n1R))
    obtain ⟨T4, X4, e4, st4⟩ := getF X2 hx hZ hown (host := "") (Or.inl (hw _ (List.mem_of_getElem? (i := 14) rfl))) Via.refl e2 f3 (g := (mkF m 161 #[.val (.ref a1), .val (.ref ar), .val (.int (0 : Int32)), .val (.int (2 : Int32)), .val (.int (0 : Int32)), .val (.int r), .val (.int st'), .val (.int pd), .val (.int (2 : Int32)), .val (.int i9), s10, s11] [(.ref a1)])) rfl rfl (hb hby d4_161)
    refine own_go st4 ?_
    show own_G p.tables e below T4 (mkF m 164 #[.val (.ref a1), .val (.ref ar), .val (.int (0 : Int32)), .val (.int (2 : Int32)), .val (.int (0 : Int32)), .val (.int r), .val (.int st'), .val (.int pd), .val (.int (2 : Int32)), .val (.int i9), s10, s11] [(.ref aS)]) _
    refine own_go (fun t_ k_ => XS.iload X4.here hx rfl (hb hby d4_164) rfl k_) ?_
    show own_G p.tables e below T4 (mkF m 166 #[.val (.ref a1), .val (.ref ar), .val (.int (0 : Int32)), .val (.int (2 : Int32)), .val (.int (0 : Int32)), .val (.int r), .val (.int st'), .val (.int pd), .val (.int (2 : Int32)), .val (.int i9), s10, s11] [(.int (0 : Int32)), (.ref aS)]) _
    refine own_go (fun t_ k_ => XS.iload X4.here hx rfl (hb hby d4_166) rfl k_) ?_
    show own_G p.tables e below T4 (mkF m 168 #[.val (.ref a1), .val (.ref ar), .val (.int (0 : Int32)), .val (.int (2 : Int32)), .val (.int (0 : Int32)), .val (.int r), .val (.int st'), .val (.int pd), .val (.int (2 : Int32)), .val (.int i9), s10, s11] [(.int st'), (.int (0 : Int32)), (.ref aS)]) _
    have f5 : Arv Z h2 aS kS .boolean (8 : Int32) [(.int S0), (.int S1), (.int (0 : Int32)), (.int (0 : Int32)), (.int (0 : Int32)), (.int (0 : Int32)), (.int (0 : Int32)), (.int (0 : Int32))] (.int (0 : Int32)) := (V_started.other W2 (Ne.symm nRS))
    obtain ⟨cl6, Ar6, q6, S6, M6, H6, G6⟩ := id f5
    have hin6 : ¬ ((0 : Int32) < 0 ∨ cl6.slots.size ≤ ((0 : Int32)).toNatClampNeg) := inb_of S6 ⟨by decide, by decide⟩
    obtain ⟨T6, h6, X6, e6, W6, st6⟩ := stZ X4 hx hZ e4 Ar6 (j := (0 : Int32)) hin6 (g := (mkF m 168 #[.val (.ref a1), .val (.ref ar), .val (.int (0 : Int32)), .val (.int (2 : Int32)), .val (.int (0 : Int32)), .val (.int r), .val (.int st'), .val (.int pd), .val (.int (2 : Int32)), .val (.int i9), s10, s11] [(.int st'), (.int (0 : Int32)), (.ref aS)])) rfl rfl (hb hby d4_168)
    have N6 := Fr.snoc X6 N2 geS
    have V6 : Arv Z h6 aS kS .boolean (8 : Int32) [(.int st'), (.int S1), (.int (0 : Int32)), (.int (0 : Int32)), (.int (0 : Int32)), (.int (0 : Int32)), (.int (0 : Int32)), (.int (0 : Int32))] (.int (0 : Int32)) := by
      have q := Arv.set Ar6 q6 S6 M6 H6 G6 (fits_nar_bool _) W6 0 rfl (Nat.le_of_ble_eq_true rfl)
      rw [own_narb hs] at q
      exact q
    refine own_go st6 ?_
    show own_G p.tables e below T6 (mkF m 169 #[.val (.ref a1), .val (.ref ar), .val (.int (0 : Int32)), .val (.int (2 : Int32)), .val (.int (0 : Int32)), .val (.int r), .val (.int st'), .val (.int pd), .val (.int (2 : Int32)), .val (.int i9), s10, s11] []) _
    refine own_go (fun t_ k_ => XS.aloadN X6.here hx rfl (hb hby d4_169) rfl rfl k_) ?_
    show own_G p.tables e below T6 (mkF m 170 #[.val (.ref a1), .val (.ref ar), .val (.int (0 : Int32)), .val (.int (2 : Int32)), .val (.int (0 : Int32)), .val (.int r), .val (.int st'), .val (.int pd), .val (.int (2 : Int32)), .val (.int i9), s10, s11] [(.ref a1)]) _
    have f7 : Fld Z h6 a1 "com/example/einzug/einzug/core/TextCharacters" "pending" "[I" (.ref aD) := ((F_pending.other W2 (Or.inl n1R)).other W6 (Or.inl n1S))
    obtain ⟨T8, X8, e8, st8⟩ := getF X6 hx hZ hown (host := "") (Or.inl (hw _ (List.mem_of_getElem? (i := 16) rfl))) Via.refl e6 f7 (g := (mkF m 170 #[.val (.ref a1), .val (.ref ar), .val (.int (0 : Int32)), .val (.int (2 : Int32)), .val (.int (0 : Int32)), .val (.int r), .val (.int st'), .val (.int pd), .val (.int (2 : Int32)), .val (.int i9), s10, s11] [(.ref a1)])) rfl rfl (hb hby d4_170)
    refine own_go st8 ?_
    show own_G p.tables e below T8 (mkF m 173 #[.val (.ref a1), .val (.ref ar), .val (.int (0 : Int32)), .val (.int (2 : Int32)), .val (.int (0 : Int32)), .val (.int r), .val (.int st'), .val (.int pd), .val (.int (2 : Int32)), .val (.int i9), s10, s11] [(.ref aD)]) _
    refine own_go (fun t_ k_ => XS.iload X8.here hx rfl (hb hby d4_173) rfl k_) ?_
    show own_G p.tables e below T8 (mkF m 175 #[.val (.ref a1), .val (.ref ar), .val (.int (0 : Int32)), .val (.int (2 : Int32)), .val (.int (0 : Int32)), .val (.int r), .val (.int st'), .val (.int pd), .val (.int (2 : Int32)), .val (.int i9), s10, s11] [(.int (0 : Int32)), (.ref aD)]) _
    refine own_go (fun t_ k_ => XS.iload X8.here hx rfl (hb hby d4_175) rfl k_) ?_
    show own_G p.tables e below T8 (mkF m 177 #[.val (.ref a1), .val (.ref ar), .val (.int (0 : Int32)), .val (.int (2 : Int32)), .val (.int (0 : Int32)), .val (.int r), .val (.int st'), .val (.int pd), .val (.int (2 : Int32)), .val (.int i9), s10, s11] [(.int pd), (.int (0 : Int32)), (.ref aD)]) _
    have f9 : Arv Z h6 aD kD .int (8 : Int32) [(.int D0), (.int D1), (.int (0 : Int32)), (.int (0 : Int32)), (.int (0 : Int32)), (.int (0 : Int32)), (.int (0 : Int32)), (.int (0 : Int32))] (.int (0 : Int32)) := ((V_pending.other W2 (Ne.symm nRD)).other W6 (Ne.symm nSD))
    obtain ⟨cl10, Ar10, q10, S10, M10, H10, G10⟩ := id f9
    have hin10 : ¬ ((0 : Int32) < 0 ∨ cl10.slots.size ≤ ((0 : Int32)).toNatClampNeg) := inb_of S10 ⟨by decide, by decide⟩
    obtain ⟨T10, h10, X10, e10, W10, st10⟩ := stI X8 hx hZ e8 Ar10 (j := (0 : Int32)) hin10 (g := (mkF m 177 #[.val (.ref a1), .val (.ref ar), .val (.int (0 : Int32)), .val (.int (2 : Int32)), .val (.int (0 : Int32)), .val (.int r), .val (.int st'), .val (.int pd), .val (.int (2 : Int32)), .val (.int i9), s10, s11] [(.int pd), (.int (0 : Int32)), (.ref aD)])) rfl rfl (hb hby d4_177)
    have N10 := Fr.snoc X10 N6 geD
    have V10 : Arv Z h10 aD kD .int (8 : Int32) [(.int pd), (.int D1), (.int (0 : Int32)), (.int (0 : Int32)), (.int (0 : Int32)), (.int (0 : Int32)), (.int (0 : Int32)), (.int (0 : Int32))] (.int (0 : Int32)) := by
      have q := Arv.set Ar10 q10 S10 M10 H10 G10 rfl W10 0 rfl (Nat.le_of_ble_eq_true rfl)
      exact q
    refine own_go st10 ?_
    show own_G p.tables e below T10 (mkF m 178 #[.val (.ref a1), .val (.ref ar), .val (.int (0 : Int32)), .val (.int (2 : Int32)), .val (.int (0 : Int32)), .val (.int r), .val (.int st'), .val (.int pd), .val (.int (2 : Int32)), .val (.int i9), s10, s11] []) _
    have f11 : Keep h0 h10 [aR, aS, aD] := ((((Keep.refl h0 [aR, aS, aD]).wr W2 (Or.inl (List.mem_of_getElem? (i := 0) rfl))).wr W6 (Or.inl (List.mem_of_getElem? (i := 1) rfl))).wr W10 (Or.inl (List.mem_of_getElem? (i := 2) rfl)))
    have f12 : Arv Z h10 aR kR .int (8 : Int32) [(.int r), (.int R1), (.int (0 : Int32)), (.int (0 : Int32)), (.int (0 : Int32)), (.int (0 : Int32)), (.int (0 : Int32)), (.int (0 : Int32))] (.int (0 : Int32)) := ((V2.other W6 nRS).other W10 nRD)
    have f13 : Arv Z h10 aS kS .boolean (8 : Int32) [(.int st'), (.int S1), (.int (0 : Int32)), (.int (0 : Int32)), (.int (0 : Int32)), (.int (0 : Int32)), (.int (0 : Int32)), (.int (0 : Int32))] (.int (0 : Int32)) := (V6.other W10 nSD)
    exact own_end (v := none) X10 Bd.notSynchronized (fun _ => rfl) (fun fs hr => X10.returnOut hx Bd.returns (hb hby d4_178) hr) e10 ⟨rfl, N10, f11, (by rw [hrun]; exact f12), (by rw [hrun]; exact f13), (by rw [hrun]; exact V10)⟩ (by decide) (by decide)
  have turn2 : ∀ (r st' pd : Int32) (s10 s11 : Slot) (Tt : State) (locs : List Loc), Stand p l e ({ frames := 3, cells := 0, slots := 0, locals := 42 } : Room) s m #[(.ref a1), (.ref ar), (.int (0 : Int32)), (.int (2 : Int32))] below meth c Tt locs 0 0 → Tt.heap = h0 → Fr n0 locs → One s10 → One s11 → (st' = 0 ∨ st' = 1) → (own_run [c0, c1] (R0, S0, D0)) = own_run [] (r, st', pd) → own_G p.tables e below Tt (mkF m 43 #[.val (.ref a1), .val (.ref ar), .val (.int (0 : Int32)), .val (.int (2 : Int32)), .val (.int (0 : Int32)), .val (.int r), .val (.int st'), .val (.int pd), .val (.int (2 : Int32)), .val (.int (2 : Int32)), s10, s11] []) (own_P below s (Q4n2d1 Z a1 ar aR aS aD kR kS kD R0 R1 S0 S1 D0 D1 ka c0 c1 aP clP h0 n0) (({ frames := 3, cells := 0, slots := 0, locals := 42 } : Room)).cells (({ frames := 3, cells := 0, slots := 0, locals := 42 } : Room)).slots) := by
    intro r st' pd s10 s11 Tt locs Xt et Nt h10 h11 hs hrun
    show own_G p.tables e below Tt (mkF m 43 #[.val (.ref a1), .val (.ref ar), .val (.int (0 : Int32)), .val (.int (2 : Int32)), .val (.int (0 : Int32)), .val (.int r), .val (.int st'), .val (.int pd), .val (.int (2 : Int32)), .val (.int (2 : Int32)), s10, s11] []) _
    refine own_go (fun t_ k_ => XS.iload Xt.here hx rfl (hb hby d4_43) rfl k_) ?_
    show own_G p.tables e below Tt (mkF m 45 #[.val (.ref a1), .val (.ref ar), .val (.int (0 : Int32)), .val (.int (2 : Int32)), .val (.int (0 : Int32)), .val (.int r), .val (.int st'), .val (.int pd), .val (.int (2 : Int32)), .val (.int (2 : Int32)), s10, s11] [(.int (2 : Int32))]) _
    refine own_go (fun t_ k_ => XS.iload Xt.here hx rfl (hb hby d4_45) rfl k_) ?_
    show own_G p.tables e below Tt (mkF m 47 #[.val (.ref a1), .val (.ref ar), .val (.int (0 : Int32)), .val (.int (2 : Int32)), .val (.int (0 : Int32)), .val (.int r), .val (.int st'), .val (.int pd), .val (.int (2 : Int32)), .val (.int (2 : Int32)), s10, s11] [(.int (2 : Int32)), (.int (2 : Int32))]) _
    refine own_go (fun t_ k_ => XS.icmpYes Xt.here hx rfl (pc0 := 47) (pc' := 151) rfl (hb hby d4_47) rfl (flt (by decide : ¬ ((2 : Int32) < (2 : Int32)))).2.1 (by decide) (by decide) k_) ?_
    show own_G p.tables e below Tt (mkF m 151 #[.val (.ref a1), .val (.ref ar), .val (.int (0 : Int32)), .val (.int (2 : Int32)), .val (.int (0 : Int32)), .val (.int r), .val (.int st'), .val (.int pd), .val (.int (2 : Int32)), .val (.int (2 : Int32)), s10, s11] []) _
    exact exit _ _ _ _ _ _ _ _ Xt et Nt h10 h11 hs hrun
  have turn1 : ∀ (r st' pd : Int32) (s10 s11 : Slot) (Tt : State) (locs : List Loc), Stand p l e ({ frames := 3, cells := 0, slots := 0, locals := 42 } : Room) s m #[(.ref a1), (.ref ar), (.int (0 : Int32)), (.int (2 : Int32))] below meth c Tt locs 0 0 → Tt.heap = h0 → Fr n0 locs → One s10 → One s11 → (st' = 0 ∨ st' = 1) → (own_run [c0, c1] (R0, S0, D0)) = own_run [c1] (r, st', pd) → own_G p.tables e below Tt (mkF m 43 #[.val (.ref a1), .val (.ref ar), .val (.int (0 : Int32)), .val (.int (2 : Int32)), .val (.int (0 : Int32)), .val (.int r), .val (.int st'), .val (.int pd), .val (.int (2 : Int32)), .val (.int (1 : Int32)), s10, s11] []) (own_P below s (Q4n2d1 Z a1 ar aR aS aD kR kS kD R0 R1 S0 S1 D0 D1 ka c0 c1 aP clP h0 n0) (({ frames := 3, cells := 0, slots := 0, locals := 42 } : Room)).cells (({ frames := 3, cells := 0, slots := 0, locals := 42 } : Room)).slots) := by
    intro r st' pd s10 s11 Tt locs Xt et Nt h10 h11 hs hrun
    by_cases hr1 : r = -1
    · subst hr1
      rw [own_run_in] at hrun
      show own_G p.tables e below Tt (mkF m 43 #[.val (.ref a1), .val (.ref ar), .val (.int (0 : Int32)), .val (.int (2 : Int32)), .val (.int (0 : Int32)), .val (.int (-1 : Int32)), .val (.int st'), .val (.int pd), .val (.int (2 : Int32)), .val (.int (1 : Int32)), s10, s11] []) _
      refine own_go (fun t_ k_ => XS.iload Xt.here hx rfl (hb hby d4_43) rfl k_) ?_
      show own_G p.tables e below Tt (mkF m 45 #[.val (.ref a1), .val (.ref ar), .val (.int (0 : Int32)), .val (.int (2 : Int32)), .val (.int (0 : Int32)), .val (.int (-1 : Int32)), .val (.int st'), .val (.int pd), .val (.int (2 : Int32)), .val (.int (1 : Int32)), s10, s11] [(.int (1 : Int32))]) _
      refine own_go (fun t_ k_ => XS.iload Xt.here hx rfl (hb hby d4_45) rfl k_) ?_
      show own_G p.tables e below Tt (mkF m 47 #[.val (.ref a1), .val (.ref ar), .val (.int (0 : Int32)), .val (.int (2 : Int32)), .val (.int (0 : Int32)), .val (.int (-1 : Int32)), .val (.int st'), .val (.int pd), .val (.int (2 : Int32)), .val (.int (1 : Int32)), s10, s11] [(.int (2 : Int32)), (.int (1 : Int32))]) _
      refine own_go (fun t_ k_ => XS.icmpNo Xt.here hx rfl (hb hby d4_47) rfl (tlt (by decide : ((1 : Int32) < (2 : Int32)))).2.1 k_) ?_
      show own_G p.tables e below Tt (mkF m 50 #[.val (.ref a1), .val (.ref ar), .val (.int (0 : Int32)), .val (.int (2 : Int32)), .val (.int (0 : Int32)), .val (.int (-1 : Int32)), .val (.int st'), .val (.int pd), .val (.int (2 : Int32)), .val (.int (1 : Int32)), s10, s11] []) _
      refine own_go (fun t_ k_ => XS.iload Xt.here hx rfl (hb hby d4_50) rfl k_) ?_
      show own_G p.tables e below Tt (mkF m 52 #[.val (.ref a1), .val (.ref ar), .val (.int (0 : Int32)), .val (.int (2 : Int32)), .val (.int (0 : Int32)), .val (.int (-1 : Int32)), .val (.int st'), .val (.int pd), .val (.int (2 : Int32)), .val (.int (1 : Int32)), s10, s11] [(.int (-1 : Int32))]) _
      refine own_go (fun t_ k_ => XS.iconst Xt.here hx rfl (hb hby d4_52) k_) ?_
      show own_G p.tables e below Tt (mkF m 53 #[.val (.ref a1), .val (.ref ar), .val (.int (0 : Int32)), .val (.int (2 : Int32)), .val (.int (0 : Int32)), .val (.int (-1 : Int32)), .val (.int st'), .val (.int pd), .val (.int (2 : Int32)), .val (.int (1 : Int32)), s10, s11] [(.int (-1 : Int32)), (.int (-1 : Int32))]) _
      refine own_go (fun t_ k_ => XS.icmpNo Xt.here hx rfl (hb hby d4_53) rfl (teq (by decide : ((-1 : Int32) = (-1 : Int32)))).2 k_) ?_
      show own_G p.tables e below Tt (mkF m 56 #[.val (.ref a1), .val (.ref ar), .val (.int (0 : Int32)), .val (.int (2 : Int32)), .val (.int (0 : Int32)), .val (.int (-1 : Int32)), .val (.int st'), .val (.int pd), .val (.int (2 : Int32)), .val (.int (1 : Int32)), s10, s11] []) _
      refine own_go (fun t_ k_ => XS.aloadN Xt.here hx rfl (hb hby d4_56) rfl rfl k_) ?_
      show own_G p.tables e below Tt (mkF m 57 #[.val (.ref a1), .val (.ref ar), .val (.int (0 : Int32)), .val (.int (2 : Int32)), .val (.int (0 : Int32)), .val (.int (-1 : Int32)), .val (.int st'), .val (.int pd), .val (.int (2 : Int32)), .val (.int (1 : Int32)), s10, s11] [(.ref ar)]) _
      refine own_go (fun t_ k_ => XS.iload Xt.here hx rfl (hb hby d4_57) rfl k_) ?_
      show own_G p.tables e below Tt (mkF m 59 #[.val (.ref a1), .val (.ref ar), .val (.int (0 : Int32)), .val (.int (2 : Int32)), .val (.int (0 : Int32)), .val (.int (-1 : Int32)), .val (.int st'), .val (.int pd), .val (.int (2 : Int32)), .val (.int (1 : Int32)), s10, s11] [(.int (1 : Int32)), (.ref ar)]) _
      refine own_go (fun t_ k_ => Xt.caload hx (j := (1 : Int32)) (v := (.int c1)) (by rw [et]; exact ArA.1) (State.isArrayOf_alike hZ.alike ArA.2.1) ArA.2.2 hinA1 hatA1 (g := (mkF m 59 #[.val (.ref a1), .val (.ref ar), .val (.int (0 : Int32)), .val (.int (2 : Int32)), .val (.int (0 : Int32)), .val (.int (-1 : Int32)), .val (.int st'), .val (.int pd), .val (.int (2 : Int32)), .val (.int (1 : Int32)), s10, s11] [(.int (1 : Int32)), (.ref ar)])) rfl rfl (hb hby d4_59) _ k_) ?_
      show own_G p.tables e below Tt (mkF m 60 #[.val (.ref a1), .val (.ref ar), .val (.int (0 : Int32)), .val (.int (2 : Int32)), .val (.int (0 : Int32)), .val (.int (-1 : Int32)), .val (.int st'), .val (.int pd), .val (.int (2 : Int32)), .val (.int (1 : Int32)), s10, s11] [(.int c1)]) _
      refine own_go (fun t_ k_ => XS.istoreS Xt.here hx rfl (hb hby d4_60) rfl rfl h10 k_) ?_
      show own_G p.tables e below Tt (mkF m 62 #[.val (.ref a1), .val (.ref ar), .val (.int (0 : Int32)), .val (.int (2 : Int32)), .val (.int (0 : Int32)), .val (.int (-1 : Int32)), .val (.int st'), .val (.int pd), .val (.int (2 : Int32)), .val (.int (1 : Int32)), .val (.int c1), s11] []) _
      refine own_go (fun t_ k_ => XS.iload Xt.here hx rfl (hb hby d4_62) rfl k_) ?_
      show own_G p.tables e below Tt (mkF m 64 #[.val (.ref a1), .val (.ref ar), .val (.int (0 : Int32)), .val (.int (2 : Int32)), .val (.int (0 : Int32)), .val (.int (-1 : Int32)), .val (.int st'), .val (.int pd), .val (.int (2 : Int32)), .val (.int (1 : Int32)), .val (.int c1), s11] [(.int c1)]) _
      obtain ⟨_, _, ⟨T14, L14, k14, n14⟩, -, X14, ⟨Lc14, hQ14, l14, y14, z14⟩, st14⟩ := Jvm.LawKit.callS Xt hx (y := (⟨"com/example/einzug/einzug/rules/XmlCharacters", "isSpace", "(I)Z"⟩ : MethodName)) hown (mvT hZ (hw _ (List.mem_of_getElem? (i := 30) rfl))) (mvT hZ (hw _ (List.mem_of_getElem? (i := 31) rfl))) (mvT hZ (hw _ (List.mem_of_getElem? (i := 32) rfl))) (mvT hZ (hw _ (List.mem_of_getElem? (i := 33) rfl))) (by decide) (backOf (W := 0) (rm5 l Z a0 hw [] c1 h0 n0 Z0) hZ (hw _ (List.mem_of_getElem? (i := 33) rfl)) (hw _ (List.mem_of_getElem? (i := 32) rfl)) (by decide) (by decide)) (g := (mkF m 64 #[.val (.ref a1), .val (.ref ar), .val (.int (0 : Int32)), .val (.int (2 : Int32)), .val (.int (0 : Int32)), .val (.int (-1 : Int32)), .val (.int st'), .val (.int pd), .val (.int (2 : Int32)), .val (.int (1 : Int32)), .val (.int c1), s11] [(.int c1)])) rfl (by rw [hml]; rfl) (argsL := [(.int c1)]) (rest := []) (lenOf own_pd2 rfl) rfl (by show 2 * 0 + _ ≤ _; exact Nat.le_of_eq rfl) (hb hby d4_64) (fun _ _ => ⟨rfl, et, (by decide : 0 + 0 ≤ _), (by decide : 0 + 0 ≤ _)⟩)
      dsimp only [Pt.U, Pt.locs, Pt.cells, Pt.slots] at X14 l14 y14 z14 st14 hQ14
      subst l14 y14 z14
      obtain ⟨rfl, N14q, e14⟩ := hQ14
      have N14 := Fr.app Nt N14q
      refine own_go st14 ?_
      show own_G p.tables e below T14 (mkF m 67 #[.val (.ref a1), .val (.ref ar), .val (.int (0 : Int32)), .val (.int (2 : Int32)), .val (.int (0 : Int32)), .val (.int (-1 : Int32)), .val (.int st'), .val (.int pd), .val (.int (2 : Int32)), .val (.int (1 : Int32)), .val (.int c1), s11] [(.int (own_sp c1))]) _
      by_cases hc67_15 : (own_sp c1) = (0 : Int32)
      · skip
        refine own_go (fun t_ k_ => XS.ifYes X14.here hx rfl (pc0 := 67) (pc' := 95) rfl (hb hby d4_67) rfl ((if0 _ _).trans (teq hc67_15).1) (by decide) (by decide) k_) ?_
        show own_G p.tables e below T14 (mkF m 95 #[.val (.ref a1), .val (.ref ar), .val (.int (0 : Int32)), .val (.int (2 : Int32)), .val (.int (0 : Int32)), .val (.int (-1 : Int32)), .val (.int st'), .val (.int pd), .val (.int (2 : Int32)), .val (.int (1 : Int32)), .val (.int c1), s11] []) _
        refine own_go (fun t_ k_ => XS.iload X14.here hx rfl (hb hby d4_95) rfl k_) ?_
        show own_G p.tables e below T14 (mkF m 97 #[.val (.ref a1), .val (.ref ar), .val (.int (0 : Int32)), .val (.int (2 : Int32)), .val (.int (0 : Int32)), .val (.int (-1 : Int32)), .val (.int st'), .val (.int pd), .val (.int (2 : Int32)), .val (.int (1 : Int32)), .val (.int c1), s11] [(.int pd)]) _
        refine own_go (fun t_ k_ => XS.iconst X14.here hx rfl (hb hby d4_97) k_) ?_
        show own_G p.tables e below T14 (mkF m 98 #[.val (.ref a1), .val (.ref ar), .val (.int (0 : Int32)), .val (.int (2 : Int32)), .val (.int (0 : Int32)), .val (.int (-1 : Int32)), .val (.int st'), .val (.int pd), .val (.int (2 : Int32)), .val (.int (1 : Int32)), .val (.int c1), s11] [(.int (-1 : Int32)), (.int pd)]) _
        by_cases hc98_16 : pd = (-1 : Int32)
        · skip
          refine own_go (fun t_ k_ => XS.icmpYes X14.here hx rfl (pc0 := 98) (pc' := 108) rfl (hb hby d4_98) rfl (teq hc98_16).1 (by decide) (by decide) k_) ?_
          show own_G p.tables e below T14 (mkF m 108 #[.val (.ref a1), .val (.ref ar), .val (.int (0 : Int32)), .val (.int (2 : Int32)), .val (.int (0 : Int32)), .val (.int (-1 : Int32)), .val (.int st'), .val (.int pd), .val (.int (2 : Int32)), .val (.int (1 : Int32)), .val (.int c1), s11] []) _
          refine own_go (fun t_ k_ => XS.iconst X14.here hx rfl (hb hby d4_108) k_) ?_
          show own_G p.tables e below T14 (mkF m 109 #[.val (.ref a1), .val (.ref ar), .val (.int (0 : Int32)), .val (.int (2 : Int32)), .val (.int (0 : Int32)), .val (.int (-1 : Int32)), .val (.int st'), .val (.int pd), .val (.int (2 : Int32)), .val (.int (1 : Int32)), .val (.int c1), s11] [(.int (1 : Int32))]) _
          refine own_go (fun t_ k_ => XS.istore X14.here hx rfl (hb hby d4_109) rfl (l' := #[.val (.ref a1), .val (.ref ar), .val (.int (0 : Int32)), .val (.int (2 : Int32)), .val (.int (0 : Int32)), .val (.int (-1 : Int32)), .val (.int (1 : Int32)), .val (.int pd), .val (.int (2 : Int32)), .val (.int (1 : Int32)), .val (.int c1), s11]) rfl k_) ?_
          show own_G p.tables e below T14 (mkF m 111 #[.val (.ref a1), .val (.ref ar), .val (.int (0 : Int32)), .val (.int (2 : Int32)), .val (.int (0 : Int32)), .val (.int (-1 : Int32)), .val (.int (1 : Int32)), .val (.int pd), .val (.int (2 : Int32)), .val (.int (1 : Int32)), .val (.int c1), s11] []) _
          refine own_go (fun t_ k_ => XS.aloadN X14.here hx rfl (hb hby d4_111) rfl rfl k_) ?_
          show own_G p.tables e below T14 (mkF m 112 #[.val (.ref a1), .val (.ref ar), .val (.int (0 : Int32)), .val (.int (2 : Int32)), .val (.int (0 : Int32)), .val (.int (-1 : Int32)), .val (.int (1 : Int32)), .val (.int pd), .val (.int (2 : Int32)), .val (.int (1 : Int32)), .val (.int c1), s11] [(.ref ar)]) _
          refine own_go (fun t_ k_ => XS.iload X14.here hx rfl (hb hby d4_112) rfl k_) ?_
          show own_G p.tables e below T14 (mkF m 114 #[.val (.ref a1), .val (.ref ar), .val (.int (0 : Int32)), .val (.int (2 : Int32)), .val (.int (0 : Int32)), .val (.int (-1 : Int32)), .val (.int (1 : Int32)), .val (.int pd), .val (.int (2 : Int32)), .val (.int (1 : Int32)), .val (.int c1), s11] [(.int (1 : Int32)), (.ref ar)]) _
          refine own_go (fun t_ k_ => XS.iload X14.here hx rfl (hb hby d4_114) rfl k_) ?_
          show own_G p.tables e below T14 (mkF m 116 #[.val (.ref a1), .val (.ref ar), .val (.int (0 : Int32)), .val (.int (2 : Int32)), .val (.int (0 : Int32)), .val (.int (-1 : Int32)), .val (.int (1 : Int32)), .val (.int pd), .val (.int (2 : Int32)), .val (.int (1 : Int32)), .val (.int c1), s11] [(.int (2 : Int32)), (.int (1 : Int32)), (.ref ar)]) _
          obtain ⟨_, _, ⟨T17, L17, k17, n17⟩, -, X17, ⟨Lc17, hQ17, l17, y17, z17⟩, st17⟩ := Jvm.LawKit.callS X14 hx (y := (⟨"java/lang/Character", "codePointAt", "([CII)I"⟩ : MethodName)) hown (mvT hZ (hw _ (List.mem_of_getElem? (i := 34) rfl))) (mvT hZ (hw _ (List.mem_of_getElem? (i := 35) rfl))) (mvT hZ (hw _ (List.mem_of_getElem? (i := 36) rfl))) (mvT hZ (hw _ (List.mem_of_getElem? (i := 37) rfl))) (by decide) (backOf (W := 0) (rm6 l Z a0 hw [] ar (1 : Int32) (2 : Int32) clA (2 : Int32) c1 h0 n0 Z0 ArA SzA MzA hinA1 hatA1 hc_c1 (by decide) (by decide) (by decide)) hZ (hw _ (List.mem_of_getElem? (i := 37) rfl)) (hw _ (List.mem_of_getElem? (i := 36) rfl)) (by decide) (by decide)) (g := (mkF m 116 #[.val (.ref a1), .val (.ref ar), .val (.int (0 : Int32)), .val (.int (2 : Int32)), .val (.int (0 : Int32)), .val (.int (-1 : Int32)), .val (.int (1 : Int32)), .val (.int pd), .val (.int (2 : Int32)), .val (.int (1 : Int32)), .val (.int c1), s11] [(.int (2 : Int32)), (.int (1 : Int32)), (.ref ar)])) rfl (by rw [hml]; rfl) (argsL := [(.ref ar), (.int (1 : Int32)), (.int (2 : Int32))]) (rest := []) (lenOf own_pd1 rfl) rfl (by show 2 * 0 + _ ≤ _; exact Nat.le_of_eq rfl) (hb hby d4_116) (fun _ _ => ⟨rfl, e14, (by decide : 0 + 0 ≤ _), (by decide : 0 + 0 ≤ _)⟩)
          dsimp only [Pt.U, Pt.locs, Pt.cells, Pt.slots] at X17 l17 y17 z17 st17 hQ17
          subst l17 y17 z17
          obtain ⟨rfl, N17q, e17⟩ := hQ17
          have N17 := Fr.app N14 N17q
          refine own_go st17 ?_
          show own_G p.tables e below T17 (mkF m 119 #[.val (.ref a1), .val (.ref ar), .val (.int (0 : Int32)), .val (.int (2 : Int32)), .val (.int (0 : Int32)), .val (.int (-1 : Int32)), .val (.int (1 : Int32)), .val (.int pd), .val (.int (2 : Int32)), .val (.int (1 : Int32)), .val (.int c1), s11] [(.int c1)]) _
          refine own_go (fun t_ k_ => XS.istoreS X17.here hx rfl (hb hby d4_119) rfl rfl h11 k_) ?_
          show own_G p.tables e below T17 (mkF m 121 #[.val (.ref a1), .val (.ref ar), .val (.int (0 : Int32)), .val (.int (2 : Int32)), .val (.int (0 : Int32)), .val (.int (-1 : Int32)), .val (.int (1 : Int32)), .val (.int pd), .val (.int (2 : Int32)), .val (.int (1 : Int32)), .val (.int c1), .val (.int c1)] []) _
          refine own_go (fun t_ k_ => XS.iload X17.here hx rfl (hb hby d4_121) rfl k_) ?_
          show own_G p.tables e below T17 (mkF m 123 #[.val (.ref a1), .val (.ref ar), .val (.int (0 : Int32)), .val (.int (2 : Int32)), .val (.int (0 : Int32)), .val (.int (-1 : Int32)), .val (.int (1 : Int32)), .val (.int pd), .val (.int (2 : Int32)), .val (.int (1 : Int32)), .val (.int c1), .val (.int c1)] [(.int (1 : Int32))]) _
          refine own_go (fun t_ k_ => XS.iload X17.here hx rfl (hb hby d4_123) rfl k_) ?_
          show own_G p.tables e below T17 (mkF m 125 #[.val (.ref a1), .val (.ref ar), .val (.int (0 : Int32)), .val (.int (2 : Int32)), .val (.int (0 : Int32)), .val (.int (-1 : Int32)), .val (.int (1 : Int32)), .val (.int pd), .val (.int (2 : Int32)), .val (.int (1 : Int32)), .val (.int c1), .val (.int c1)] [(.int c1), (.int (1 : Int32))]) _
          obtain ⟨_, _, ⟨T18, L18, k18, n18⟩, -, X18, ⟨Lc18, hQ18, l18, y18, z18⟩, st18⟩ := Jvm.LawKit.callS X17 hx (y := (⟨"java/lang/Character", "charCount", "(I)I"⟩ : MethodName)) hown (mvT hZ (hw _ (List.mem_of_getElem? (i := 45) rfl))) (mvT hZ (hw _ (List.mem_of_getElem? (i := 46) rfl))) (mvT hZ (hw _ (List.mem_of_getElem? (i := 36) rfl))) (mvT hZ (hw _ (List.mem_of_getElem? (i := 47) rfl))) (by decide) (backOf (W := 1) (rm9 l Z a0 hw [] c1 h0 n0 Z0 hc_c1) hZ (hw _ (List.mem_of_getElem? (i := 47) rfl)) (hw _ (List.mem_of_getElem? (i := 36) rfl)) (by decide) (by decide)) (g := (mkF m 125 #[.val (.ref a1), .val (.ref ar), .val (.int (0 : Int32)), .val (.int (2 : Int32)), .val (.int (0 : Int32)), .val (.int (-1 : Int32)), .val (.int (1 : Int32)), .val (.int pd), .val (.int (2 : Int32)), .val (.int (1 : Int32)), .val (.int c1), .val (.int c1)] [(.int c1), (.int (1 : Int32))])) rfl (by rw [hml]; rfl) (argsL := [(.int c1)]) (rest := [(.int (1 : Int32))]) (lenOf own_pd3 rfl) rfl (by show 2 * 0 + _ ≤ _; exact Nat.le_of_eq rfl) (hb hby d4_125) (fun _ _ => ⟨rfl, e17, (by decide : 0 + 0 ≤ _), (by decide : 0 + 0 ≤ _)⟩)
          dsimp only [Pt.U, Pt.locs, Pt.cells, Pt.slots] at X18 l18 y18 z18 st18 hQ18
          subst l18 y18 z18
          obtain ⟨rfl, N18q, e18⟩ := hQ18
          have N18 := Fr.app N17 N18q
          refine own_go st18 ?_
          show own_G p.tables e below T18 (mkF m 128 #[.val (.ref a1), .val (.ref ar), .val (.int (0 : Int32)), .val (.int (2 : Int32)), .val (.int (0 : Int32)), .val (.int (-1 : Int32)), .val (.int (1 : Int32)), .val (.int pd), .val (.int (2 : Int32)), .val (.int (1 : Int32)), .val (.int c1), .val (.int c1)] [(.int (1 : Int32)), (.int (1 : Int32))]) _
          refine own_go (fun t_ k_ => XS.iconst X18.here hx rfl (hb hby d4_128) k_) ?_
          show own_G p.tables e below T18 (mkF m 129 #[.val (.ref a1), .val (.ref ar), .val (.int (0 : Int32)), .val (.int (2 : Int32)), .val (.int (0 : Int32)), .val (.int (-1 : Int32)), .val (.int (1 : Int32)), .val (.int pd), .val (.int (2 : Int32)), .val (.int (1 : Int32)), .val (.int c1), .val (.int c1)] [(.int (1 : Int32)), (.int (1 : Int32)), (.int (1 : Int32))]) _
          refine own_go (fun t_ k_ => XS.isub X18.here hx rfl (hb hby d4_129) rfl k_) ?_
          show own_G p.tables e below T18 (mkF m 130 #[.val (.ref a1), .val (.ref ar), .val (.int (0 : Int32)), .val (.int (2 : Int32)), .val (.int (0 : Int32)), .val (.int (-1 : Int32)), .val (.int (1 : Int32)), .val (.int pd), .val (.int (2 : Int32)), .val (.int (1 : Int32)), .val (.int c1), .val (.int c1)] [(.int (0 : Int32)), (.int (1 : Int32))]) _
          refine own_go (fun t_ k_ => XS.iadd X18.here hx rfl (hb hby d4_130) rfl k_) ?_
          show own_G p.tables e below T18 (mkF m 131 #[.val (.ref a1), .val (.ref ar), .val (.int (0 : Int32)), .val (.int (2 : Int32)), .val (.int (0 : Int32)), .val (.int (-1 : Int32)), .val (.int (1 : Int32)), .val (.int pd), .val (.int (2 : Int32)), .val (.int (1 : Int32)), .val (.int c1), .val (.int c1)] [(.int (1 : Int32))]) _
          refine own_go (fun t_ k_ => XS.istore X18.here hx rfl (hb hby d4_131) rfl (l' := #[.val (.ref a1), .val (.ref ar), .val (.int (0 : Int32)), .val (.int (2 : Int32)), .val (.int (0 : Int32)), .val (.int (-1 : Int32)), .val (.int (1 : Int32)), .val (.int pd), .val (.int (2 : Int32)), .val (.int (1 : Int32)), .val (.int c1), .val (.int c1)]) rfl k_) ?_
          show own_G p.tables e below T18 (mkF m 133 #[.val (.ref a1), .val (.ref ar), .val (.int (0 : Int32)), .val (.int (2 : Int32)), .val (.int (0 : Int32)), .val (.int (-1 : Int32)), .val (.int (1 : Int32)), .val (.int pd), .val (.int (2 : Int32)), .val (.int (1 : Int32)), .val (.int c1), .val (.int c1)] []) _
          refine own_go (fun t_ k_ => XS.iload X18.here hx rfl (hb hby d4_133) rfl k_) ?_
          show own_G p.tables e below T18 (mkF m 135 #[.val (.ref a1), .val (.ref ar), .val (.int (0 : Int32)), .val (.int (2 : Int32)), .val (.int (0 : Int32)), .val (.int (-1 : Int32)), .val (.int (1 : Int32)), .val (.int pd), .val (.int (2 : Int32)), .val (.int (1 : Int32)), .val (.int c1), .val (.int c1)] [(.int c1)]) _
          obtain ⟨_, _, ⟨T19, L19, k19, n19⟩, -, X19, ⟨Lc19, hQ19, l19, y19, z19⟩, st19⟩ := Jvm.LawKit.callS X18 hx (y := (⟨"com/example/einzug/einzug/rules/PermittedCharacters", "isPermitted", "(I)Z"⟩ : MethodName)) hown (mvT hZ (hw _ (List.mem_of_getElem? (i := 49) rfl))) (mvT hZ (hw _ (List.mem_of_getElem? (i := 50) rfl))) (mvT hZ (hw _ (List.mem_of_getElem? (i := 51) rfl))) (mvT hZ (hw _ (List.mem_of_getElem? (i := 52) rfl))) (by decide) (backOf (W := 0) (rm10 l Z a0 hw [] c1 aP clP h0 n0 Z0 S_P Ar_P sz_P tab_P) hZ (hw _ (List.mem_of_getElem? (i := 52) rfl)) (hw _ (List.mem_of_getElem? (i := 51) rfl)) (by decide) (by decide)) (g := (mkF m 135 #[.val (.ref a1), .val (.ref ar), .val (.int (0 : Int32)), .val (.int (2 : Int32)), .val (.int (0 : Int32)), .val (.int (-1 : Int32)), .val (.int (1 : Int32)), .val (.int pd), .val (.int (2 : Int32)), .val (.int (1 : Int32)), .val (.int c1), .val (.int c1)] [(.int c1)])) rfl (by rw [hml]; rfl) (argsL := [(.int c1)]) (rest := []) (lenOf own_pd2 rfl) rfl (by show 2 * 0 + _ ≤ _; exact Nat.le_of_eq rfl) (hb hby d4_135) (fun _ _ => ⟨rfl, e18, (by decide : 0 + 0 ≤ _), (by decide : 0 + 0 ≤ _)⟩)
          dsimp only [Pt.U, Pt.locs, Pt.cells, Pt.slots] at X19 l19 y19 z19 st19 hQ19
          subst l19 y19 z19
          obtain ⟨rfl, N19q, e19⟩ := hQ19
          have N19 := Fr.app N18 N19q
          refine own_go st19 ?_
          show own_G p.tables e below T19 (mkF m 138 #[.val (.ref a1), .val (.ref ar), .val (.int (0 : Int32)), .val (.int (2 : Int32)), .val (.int (0 : Int32)), .val (.int (-1 : Int32)), .val (.int (1 : Int32)), .val (.int pd), .val (.int (2 : Int32)), .val (.int (1 : Int32)), .val (.int c1), .val (.int c1)] [(.int (own_isp c1))]) _
          by_cases hc138_20 : (own_isp c1) = (0 : Int32)
          · skip
            refine own_go (fun t_ k_ => XS.ifNo X19.here hx rfl (hb hby d4_138) rfl ((if0 _ _).trans (teq hc138_20).2) k_) ?_
            show own_G p.tables e below T19 (mkF m 141 #[.val (.ref a1), .val (.ref ar), .val (.int (0 : Int32)), .val (.int (2 : Int32)), .val (.int (0 : Int32)), .val (.int (-1 : Int32)), .val (.int (1 : Int32)), .val (.int pd), .val (.int (2 : Int32)), .val (.int (1 : Int32)), .val (.int c1), .val (.int c1)] []) _
            refine own_go (fun t_ k_ => XS.iload X19.here hx rfl (hb hby d4_141) rfl k_) ?_
            show own_G p.tables e below T19 (mkF m 143 #[.val (.ref a1), .val (.ref ar), .val (.int (0 : Int32)), .val (.int (2 : Int32)), .val (.int (0 : Int32)), .val (.int (-1 : Int32)), .val (.int (1 : Int32)), .val (.int pd), .val (.int (2 : Int32)), .val (.int (1 : Int32)), .val (.int c1), .val (.int c1)] [(.int c1)]) _
            refine own_go (fun t_ k_ => XS.istore X19.here hx rfl (hb hby d4_143) rfl (l' := #[.val (.ref a1), .val (.ref ar), .val (.int (0 : Int32)), .val (.int (2 : Int32)), .val (.int (0 : Int32)), .val (.int c1), .val (.int (1 : Int32)), .val (.int pd), .val (.int (2 : Int32)), .val (.int (1 : Int32)), .val (.int c1), .val (.int c1)]) rfl k_) ?_
            show own_G p.tables e below T19 (mkF m 145 #[.val (.ref a1), .val (.ref ar), .val (.int (0 : Int32)), .val (.int (2 : Int32)), .val (.int (0 : Int32)), .val (.int c1), .val (.int (1 : Int32)), .val (.int pd), .val (.int (2 : Int32)), .val (.int (1 : Int32)), .val (.int c1), .val (.int c1)] []) _
            refine own_go (fun t_ k_ => XS.iinc X19.here hx rfl (hb hby d4_145) rfl (l' := #[.val (.ref a1), .val (.ref ar), .val (.int (0 : Int32)), .val (.int (2 : Int32)), .val (.int (0 : Int32)), .val (.int c1), .val (.int (1 : Int32)), .val (.int pd), .val (.int (2 : Int32)), .val (.int (2 : Int32)), .val (.int c1), .val (.int c1)]) rfl k_) ?_
            show own_G p.tables e below T19 (mkF m 148 #[.val (.ref a1), .val (.ref ar), .val (.int (0 : Int32)), .val (.int (2 : Int32)), .val (.int (0 : Int32)), .val (.int c1), .val (.int (1 : Int32)), .val (.int pd), .val (.int (2 : Int32)), .val (.int (2 : Int32)), .val (.int c1), .val (.int c1)] []) _
            refine own_go (fun t_ k_ => XS.goto X19.here hx rfl (pc0 := 148) (pc' := 43) rfl (hb hby d4_148) (by decide) (by decide) k_) ?_
            show own_G p.tables e below T19 (mkF m 43 #[.val (.ref a1), .val (.ref ar), .val (.int (0 : Int32)), .val (.int (2 : Int32)), .val (.int (0 : Int32)), .val (.int c1), .val (.int (1 : Int32)), .val (.int pd), .val (.int (2 : Int32)), .val (.int (2 : Int32)), .val (.int c1), .val (.int c1)] []) _
            have hstep : own_step c1 st' pd = (c1, (1 : Int32), pd) := by unfold own_step; rw [if_pos hc67_15, if_pos hc98_16, if_pos hc138_20]
            rw [hstep] at hrun
            exact turn2 _ _ _ _ _ _ _ X19 e19 N19 (One.val rfl) (One.val rfl) (Or.inr rfl) hrun
          · skip
            refine own_go (fun t_ k_ => XS.ifYes X19.here hx rfl (pc0 := 138) (pc' := 145) rfl (hb hby d4_138) rfl ((if0 _ _).trans (feq hc138_20).2) (by decide) (by decide) k_) ?_
            show own_G p.tables e below T19 (mkF m 145 #[.val (.ref a1), .val (.ref ar), .val (.int (0 : Int32)), .val (.int (2 : Int32)), .val (.int (0 : Int32)), .val (.int (-1 : Int32)), .val (.int (1 : Int32)), .val (.int pd), .val (.int (2 : Int32)), .val (.int (1 : Int32)), .val (.int c1), .val (.int c1)] []) _
            refine own_go (fun t_ k_ => XS.iinc X19.here hx rfl (hb hby d4_145) rfl (l' := #[.val (.ref a1), .val (.ref ar), .val (.int (0 : Int32)), .val (.int (2 : Int32)), .val (.int (0 : Int32)), .val (.int (-1 : Int32)), .val (.int (1 : Int32)), .val (.int pd), .val (.int (2 : Int32)), .val (.int (2 : Int32)), .val (.int c1), .val (.int c1)]) rfl k_) ?_
            show own_G p.tables e below T19 (mkF m 148 #[.val (.ref a1), .val (.ref ar), .val (.int (0 : Int32)), .val (.int (2 : Int32)), .val (.int (0 : Int32)), .val (.int (-1 : Int32)), .val (.int (1 : Int32)), .val (.int pd), .val (.int (2 : Int32)), .val (.int (2 : Int32)), .val (.int c1), .val (.int c1)] []) _
            refine own_go (fun t_ k_ => XS.goto X19.here hx rfl (pc0 := 148) (pc' := 43) rfl (hb hby d4_148) (by decide) (by decide) k_) ?_
            show own_G p.tables e below T19 (mkF m 43 #[.val (.ref a1), .val (.ref ar), .val (.int (0 : Int32)), .val (.int (2 : Int32)), .val (.int (0 : Int32)), .val (.int (-1 : Int32)), .val (.int (1 : Int32)), .val (.int pd), .val (.int (2 : Int32)), .val (.int (2 : Int32)), .val (.int c1), .val (.int c1)] []) _
            have hstep : own_step c1 st' pd = ((-1 : Int32), (1 : Int32), pd) := by unfold own_step; rw [if_pos hc67_15, if_pos hc98_16, if_neg hc138_20]
            rw [hstep] at hrun
            exact turn2 _ _ _ _ _ _ _ X19 e19 N19 (One.val rfl) (One.val rfl) (Or.inr rfl) hrun
        · skip
          refine own_go (fun t_ k_ => XS.icmpNo X14.here hx rfl (hb hby d4_98) rfl (feq hc98_16).1 k_) ?_
          show own_G p.tables e below T14 (mkF m 101 #[.val (.ref a1), .val (.ref ar), .val (.int (0 : Int32)), .val (.int (2 : Int32)), .val (.int (0 : Int32)), .val (.int (-1 : Int32)), .val (.int st'), .val (.int pd), .val (.int (2 : Int32)), .val (.int (1 : Int32)), .val (.int c1), s11] []) _
          refine own_go (fun t_ k_ => XS.iload X14.here hx rfl (hb hby d4_101) rfl k_) ?_
          show own_G p.tables e below T14 (mkF m 103 #[.val (.ref a1), .val (.ref ar), .val (.int (0 : Int32)), .val (.int (2 : Int32)), .val (.int (0 : Int32)), .val (.int (-1 : Int32)), .val (.int st'), .val (.int pd), .val (.int (2 : Int32)), .val (.int (1 : Int32)), .val (.int c1), s11] [(.int pd)]) _
          refine own_go (fun t_ k_ => XS.istore X14.here hx rfl (hb hby d4_103) rfl (l' := #[.val (.ref a1), .val (.ref ar), .val (.int (0 : Int32)), .val (.int (2 : Int32)), .val (.int (0 : Int32)), .val (.int pd), .val (.int st'), .val (.int pd), .val (.int (2 : Int32)), .val (.int (1 : Int32)), .val (.int c1), s11]) rfl k_) ?_
          show own_G p.tables e below T14 (mkF m 105 #[.val (.ref a1), .val (.ref ar), .val (.int (0 : Int32)), .val (.int (2 : Int32)), .val (.int (0 : Int32)), .val (.int pd), .val (.int st'), .val (.int pd), .val (.int (2 : Int32)), .val (.int (1 : Int32)), .val (.int c1), s11] []) _
          refine own_go (fun t_ k_ => XS.goto X14.here hx rfl (pc0 := 105) (pc' := 145) rfl (hb hby d4_105) (by decide) (by decide) k_) ?_
          show own_G p.tables e below T14 (mkF m 145 #[.val (.ref a1), .val (.ref ar), .val (.int (0 : Int32)), .val (.int (2 : Int32)), .val (.int (0 : Int32)), .val (.int pd), .val (.int st'), .val (.int pd), .val (.int (2 : Int32)), .val (.int (1 : Int32)), .val (.int c1), s11] []) _
          refine own_go (fun t_ k_ => XS.iinc X14.here hx rfl (hb hby d4_145) rfl (l' := #[.val (.ref a1), .val (.ref ar), .val (.int (0 : Int32)), .val (.int (2 : Int32)), .val (.int (0 : Int32)), .val (.int pd), .val (.int st'), .val (.int pd), .val (.int (2 : Int32)), .val (.int (2 : Int32)), .val (.int c1), s11]) rfl k_) ?_
          show own_G p.tables e below T14 (mkF m 148 #[.val (.ref a1), .val (.ref ar), .val (.int (0 : Int32)), .val (.int (2 : Int32)), .val (.int (0 : Int32)), .val (.int pd), .val (.int st'), .val (.int pd), .val (.int (2 : Int32)), .val (.int (2 : Int32)), .val (.int c1), s11] []) _
          refine own_go (fun t_ k_ => XS.goto X14.here hx rfl (pc0 := 148) (pc' := 43) rfl (hb hby d4_148) (by decide) (by decide) k_) ?_
          show own_G p.tables e below T14 (mkF m 43 #[.val (.ref a1), .val (.ref ar), .val (.int (0 : Int32)), .val (.int (2 : Int32)), .val (.int (0 : Int32)), .val (.int pd), .val (.int st'), .val (.int pd), .val (.int (2 : Int32)), .val (.int (2 : Int32)), .val (.int c1), s11] []) _
          have hstep : own_step c1 st' pd = (pd, st', pd) := by unfold own_step; rw [if_pos hc67_15, if_neg hc98_16]
          rw [hstep] at hrun
          exact turn2 _ _ _ _ _ _ _ X14 e14 N14 (One.val rfl) h11 hs hrun
      · skip
        refine own_go (fun t_ k_ => XS.ifNo X14.here hx rfl (hb hby d4_67) rfl ((if0 _ _).trans (feq hc67_15).1) k_) ?_
        show own_G p.tables e below T14 (mkF m 70 #[.val (.ref a1), .val (.ref ar), .val (.int (0 : Int32)), .val (.int (2 : Int32)), .val (.int (0 : Int32)), .val (.int (-1 : Int32)), .val (.int st'), .val (.int pd), .val (.int (2 : Int32)), .val (.int (1 : Int32)), .val (.int c1), s11] []) _
        refine own_go (fun t_ k_ => XS.iload X14.here hx rfl (hb hby d4_70) rfl k_) ?_
        show own_G p.tables e below T14 (mkF m 72 #[.val (.ref a1), .val (.ref ar), .val (.int (0 : Int32)), .val (.int (2 : Int32)), .val (.int (0 : Int32)), .val (.int (-1 : Int32)), .val (.int st'), .val (.int pd), .val (.int (2 : Int32)), .val (.int (1 : Int32)), .val (.int c1), s11] [(.int st')]) _
        by_cases hc72_21 : st' = (0 : Int32)
        · skip
          refine own_go (fun t_ k_ => XS.ifYes X14.here hx rfl (pc0 := 72) (pc' := 145) rfl (hb hby d4_72) rfl ((if0 _ _).trans (teq hc72_21).1) (by decide) (by decide) k_) ?_
          show own_G p.tables e below T14 (mkF m 145 #[.val (.ref a1), .val (.ref ar), .val (.int (0 : Int32)), .val (.int (2 : Int32)), .val (.int (0 : Int32)), .val (.int (-1 : Int32)), .val (.int st'), .val (.int pd), .val (.int (2 : Int32)), .val (.int (1 : Int32)), .val (.int c1), s11] []) _
          refine own_go (fun t_ k_ => XS.iinc X14.here hx rfl (hb hby d4_145) rfl (l' := #[.val (.ref a1), .val (.ref ar), .val (.int (0 : Int32)), .val (.int (2 : Int32)), .val (.int (0 : Int32)), .val (.int (-1 : Int32)), .val (.int st'), .val (.int pd), .val (.int (2 : Int32)), .val (.int (2 : Int32)), .val (.int c1), s11]) rfl k_) ?_
          show own_G p.tables e below T14 (mkF m 148 #[.val (.ref a1), .val (.ref ar), .val (.int (0 : Int32)), .val (.int (2 : Int32)), .val (.int (0 : Int32)), .val (.int (-1 : Int32)), .val (.int st'), .val (.int pd), .val (.int (2 : Int32)), .val (.int (2 : Int32)), .val (.int c1), s11] []) _
          refine own_go (fun t_ k_ => XS.goto X14.here hx rfl (pc0 := 148) (pc' := 43) rfl (hb hby d4_148) (by decide) (by decide) k_) ?_
          show own_G p.tables e below T14 (mkF m 43 #[.val (.ref a1), .val (.ref ar), .val (.int (0 : Int32)), .val (.int (2 : Int32)), .val (.int (0 : Int32)), .val (.int (-1 : Int32)), .val (.int st'), .val (.int pd), .val (.int (2 : Int32)), .val (.int (2 : Int32)), .val (.int c1), s11] []) _
          have hstep : own_step c1 st' pd = ((-1 : Int32), st', pd) := by unfold own_step; rw [if_neg hc67_15, if_pos hc72_21]
          rw [hstep] at hrun
          exact turn2 _ _ _ _ _ _ _ X14 e14 N14 (One.val rfl) h11 hs hrun
        · skip
          refine own_go (fun t_ k_ => XS.ifNo X14.here hx rfl (hb hby d4_72) rfl ((if0 _ _).trans (feq hc72_21).1) k_) ?_
          show own_G p.tables e below T14 (mkF m 75 #[.val (.ref a1), .val (.ref ar), .val (.int (0 : Int32)), .val (.int (2 : Int32)), .val (.int (0 : Int32)), .val (.int (-1 : Int32)), .val (.int st'), .val (.int pd), .val (.int (2 : Int32)), .val (.int (1 : Int32)), .val (.int c1), s11] []) _
          refine own_go (fun t_ k_ => XS.iload X14.here hx rfl (hb hby d4_75) rfl k_) ?_
          show own_G p.tables e below T14 (mkF m 77 #[.val (.ref a1), .val (.ref ar), .val (.int (0 : Int32)), .val (.int (2 : Int32)), .val (.int (0 : Int32)), .val (.int (-1 : Int32)), .val (.int st'), .val (.int pd), .val (.int (2 : Int32)), .val (.int (1 : Int32)), .val (.int c1), s11] [(.int c1)]) _
          refine own_go (fun t_ k_ => XS.bipush X14.here hx rfl (hb hby d4_77) k_) ?_
          show own_G p.tables e below T14 (mkF m 79 #[.val (.ref a1), .val (.ref ar), .val (.int (0 : Int32)), .val (.int (2 : Int32)), .val (.int (0 : Int32)), .val (.int (-1 : Int32)), .val (.int st'), .val (.int pd), .val (.int (2 : Int32)), .val (.int (1 : Int32)), .val (.int c1), s11] [(.int (32 : Int32)), (.int c1)]) _
          by_cases hc79_22 : c1 = (32 : Int32)
          · skip
            refine own_go (fun t_ k_ => XS.icmpYes X14.here hx rfl (pc0 := 79) (pc' := 145) rfl (hb hby d4_79) rfl (teq hc79_22).1 (by decide) (by decide) k_) ?_
            show own_G p.tables e below T14 (mkF m 145 #[.val (.ref a1), .val (.ref ar), .val (.int (0 : Int32)), .val (.int (2 : Int32)), .val (.int (0 : Int32)), .val (.int (-1 : Int32)), .val (.int st'), .val (.int pd), .val (.int (2 : Int32)), .val (.int (1 : Int32)), .val (.int c1), s11] []) _
            refine own_go (fun t_ k_ => XS.iinc X14.here hx rfl (hb hby d4_145) rfl (l' := #[.val (.ref a1), .val (.ref ar), .val (.int (0 : Int32)), .val (.int (2 : Int32)), .val (.int (0 : Int32)), .val (.int (-1 : Int32)), .val (.int st'), .val (.int pd), .val (.int (2 : Int32)), .val (.int (2 : Int32)), .val (.int c1), s11]) rfl k_) ?_
            show own_G p.tables e below T14 (mkF m 148 #[.val (.ref a1), .val (.ref ar), .val (.int (0 : Int32)), .val (.int (2 : Int32)), .val (.int (0 : Int32)), .val (.int (-1 : Int32)), .val (.int st'), .val (.int pd), .val (.int (2 : Int32)), .val (.int (2 : Int32)), .val (.int c1), s11] []) _
            refine own_go (fun t_ k_ => XS.goto X14.here hx rfl (pc0 := 148) (pc' := 43) rfl (hb hby d4_148) (by decide) (by decide) k_) ?_
            show own_G p.tables e below T14 (mkF m 43 #[.val (.ref a1), .val (.ref ar), .val (.int (0 : Int32)), .val (.int (2 : Int32)), .val (.int (0 : Int32)), .val (.int (-1 : Int32)), .val (.int st'), .val (.int pd), .val (.int (2 : Int32)), .val (.int (2 : Int32)), .val (.int c1), s11] []) _
            have hstep : own_step c1 st' pd = ((-1 : Int32), st', pd) := by unfold own_step; rw [if_neg hc67_15, if_neg hc72_21, if_pos hc79_22]
            rw [hstep] at hrun
            exact turn2 _ _ _ _ _ _ _ X14 e14 N14 (One.val rfl) h11 hs hrun
          · skip
            refine own_go (fun t_ k_ => XS.icmpNo X14.here hx rfl (hb hby d4_79) rfl (feq hc79_22).1 k_) ?_
            show own_G p.tables e below T14 (mkF m 82 #[.val (.ref a1), .val (.ref ar), .val (.int (0 : Int32)), .val (.int (2 : Int32)), .val (.int (0 : Int32)), .val (.int (-1 : Int32)), .val (.int st'), .val (.int pd), .val (.int (2 : Int32)), .val (.int (1 : Int32)), .val (.int c1), s11] []) _
            refine own_go (fun t_ k_ => XS.iload X14.here hx rfl (hb hby d4_82) rfl k_) ?_
            show own_G p.tables e below T14 (mkF m 84 #[.val (.ref a1), .val (.ref ar), .val (.int (0 : Int32)), .val (.int (2 : Int32)), .val (.int (0 : Int32)), .val (.int (-1 : Int32)), .val (.int st'), .val (.int pd), .val (.int (2 : Int32)), .val (.int (1 : Int32)), .val (.int c1), s11] [(.int pd)]) _
            refine own_go (fun t_ k_ => XS.iconst X14.here hx rfl (hb hby d4_84) k_) ?_
            show own_G p.tables e below T14 (mkF m 85 #[.val (.ref a1), .val (.ref ar), .val (.int (0 : Int32)), .val (.int (2 : Int32)), .val (.int (0 : Int32)), .val (.int (-1 : Int32)), .val (.int st'), .val (.int pd), .val (.int (2 : Int32)), .val (.int (1 : Int32)), .val (.int c1), s11] [(.int (-1 : Int32)), (.int pd)]) _
            by_cases hc85_23 : pd = (-1 : Int32)
            · skip
              refine own_go (fun t_ k_ => XS.icmpNo X14.here hx rfl (hb hby d4_85) rfl (teq hc85_23).2 k_) ?_
              show own_G p.tables e below T14 (mkF m 88 #[.val (.ref a1), .val (.ref ar), .val (.int (0 : Int32)), .val (.int (2 : Int32)), .val (.int (0 : Int32)), .val (.int (-1 : Int32)), .val (.int st'), .val (.int pd), .val (.int (2 : Int32)), .val (.int (1 : Int32)), .val (.int c1), s11] []) _
              refine own_go (fun t_ k_ => XS.iload X14.here hx rfl (hb hby d4_88) rfl k_) ?_
              show own_G p.tables e below T14 (mkF m 90 #[.val (.ref a1), .val (.ref ar), .val (.int (0 : Int32)), .val (.int (2 : Int32)), .val (.int (0 : Int32)), .val (.int (-1 : Int32)), .val (.int st'), .val (.int pd), .val (.int (2 : Int32)), .val (.int (1 : Int32)), .val (.int c1), s11] [(.int c1)]) _
              refine own_go (fun t_ k_ => XS.istore X14.here hx rfl (hb hby d4_90) rfl (l' := #[.val (.ref a1), .val (.ref ar), .val (.int (0 : Int32)), .val (.int (2 : Int32)), .val (.int (0 : Int32)), .val (.int (-1 : Int32)), .val (.int st'), .val (.int c1), .val (.int (2 : Int32)), .val (.int (1 : Int32)), .val (.int c1), s11]) rfl k_) ?_
              show own_G p.tables e below T14 (mkF m 92 #[.val (.ref a1), .val (.ref ar), .val (.int (0 : Int32)), .val (.int (2 : Int32)), .val (.int (0 : Int32)), .val (.int (-1 : Int32)), .val (.int st'), .val (.int c1), .val (.int (2 : Int32)), .val (.int (1 : Int32)), .val (.int c1), s11] []) _
              refine own_go (fun t_ k_ => XS.goto X14.here hx rfl (pc0 := 92) (pc' := 145) rfl (hb hby d4_92) (by decide) (by decide) k_) ?_
              show own_G p.tables e below T14 (mkF m 145 #[.val (.ref a1), .val (.ref ar), .val (.int (0 : Int32)), .val (.int (2 : Int32)), .val (.int (0 : Int32)), .val (.int (-1 : Int32)), .val (.int st'), .val (.int c1), .val (.int (2 : Int32)), .val (.int (1 : Int32)), .val (.int c1), s11] []) _
              refine own_go (fun t_ k_ => XS.iinc X14.here hx rfl (hb hby d4_145) rfl (l' := #[.val (.ref a1), .val (.ref ar), .val (.int (0 : Int32)), .val (.int (2 : Int32)), .val (.int (0 : Int32)), .val (.int (-1 : Int32)), .val (.int st'), .val (.int c1), .val (.int (2 : Int32)), .val (.int (2 : Int32)), .val (.int c1), s11]) rfl k_) ?_
              show own_G p.tables e below T14 (mkF m 148 #[.val (.ref a1), .val (.ref ar), .val (.int (0 : Int32)), .val (.int (2 : Int32)), .val (.int (0 : Int32)), .val (.int (-1 : Int32)), .val (.int st'), .val (.int c1), .val (.int (2 : Int32)), .val (.int (2 : Int32)), .val (.int c1), s11] []) _
              refine own_go (fun t_ k_ => XS.goto X14.here hx rfl (pc0 := 148) (pc' := 43) rfl (hb hby d4_148) (by decide) (by decide) k_) ?_
              show own_G p.tables e below T14 (mkF m 43 #[.val (.ref a1), .val (.ref ar), .val (.int (0 : Int32)), .val (.int (2 : Int32)), .val (.int (0 : Int32)), .val (.int (-1 : Int32)), .val (.int st'), .val (.int c1), .val (.int (2 : Int32)), .val (.int (2 : Int32)), .val (.int c1), s11] []) _
              have hstep : own_step c1 st' pd = ((-1 : Int32), st', c1) := by unfold own_step; rw [if_neg hc67_15, if_neg hc72_21, if_neg hc79_22, if_pos hc85_23]
              rw [hstep] at hrun
              exact turn2 _ _ _ _ _ _ _ X14 e14 N14 (One.val rfl) h11 hs hrun
            · skip
              refine own_go (fun t_ k_ => XS.icmpYes X14.here hx rfl (pc0 := 85) (pc' := 145) rfl (hb hby d4_85) rfl (feq hc85_23).2 (by decide) (by decide) k_) ?_
              show own_G p.tables e below T14 (mkF m 145 #[.val (.ref a1), .val (.ref ar), .val (.int (0 : Int32)), .val (.int (2 : Int32)), .val (.int (0 : Int32)), .val (.int (-1 : Int32)), .val (.int st'), .val (.int pd), .val (.int (2 : Int32)), .val (.int (1 : Int32)), .val (.int c1), s11] []) _
              refine own_go (fun t_ k_ => XS.iinc X14.here hx rfl (hb hby d4_145) rfl (l' := #[.val (.ref a1), .val (.ref ar), .val (.int (0 : Int32)), .val (.int (2 : Int32)), .val (.int (0 : Int32)), .val (.int (-1 : Int32)), .val (.int st'), .val (.int pd), .val (.int (2 : Int32)), .val (.int (2 : Int32)), .val (.int c1), s11]) rfl k_) ?_
              show own_G p.tables e below T14 (mkF m 148 #[.val (.ref a1), .val (.ref ar), .val (.int (0 : Int32)), .val (.int (2 : Int32)), .val (.int (0 : Int32)), .val (.int (-1 : Int32)), .val (.int st'), .val (.int pd), .val (.int (2 : Int32)), .val (.int (2 : Int32)), .val (.int c1), s11] []) _
              refine own_go (fun t_ k_ => XS.goto X14.here hx rfl (pc0 := 148) (pc' := 43) rfl (hb hby d4_148) (by decide) (by decide) k_) ?_
              show own_G p.tables e below T14 (mkF m 43 #[.val (.ref a1), .val (.ref ar), .val (.int (0 : Int32)), .val (.int (2 : Int32)), .val (.int (0 : Int32)), .val (.int (-1 : Int32)), .val (.int st'), .val (.int pd), .val (.int (2 : Int32)), .val (.int (2 : Int32)), .val (.int c1), s11] []) _
              have hstep : own_step c1 st' pd = ((-1 : Int32), st', pd) := by unfold own_step; rw [if_neg hc67_15, if_neg hc72_21, if_neg hc79_22, if_neg hc85_23]
              rw [hstep] at hrun
              exact turn2 _ _ _ _ _ _ _ X14 e14 N14 (One.val rfl) h11 hs hrun
    · rw [own_run_out _ _ hr1] at hrun
      show own_G p.tables e below Tt (mkF m 43 #[.val (.ref a1), .val (.ref ar), .val (.int (0 : Int32)), .val (.int (2 : Int32)), .val (.int (0 : Int32)), .val (.int r), .val (.int st'), .val (.int pd), .val (.int (2 : Int32)), .val (.int (1 : Int32)), s10, s11] []) _
      refine own_go (fun t_ k_ => XS.iload Xt.here hx rfl (hb hby d4_43) rfl k_) ?_
      show own_G p.tables e below Tt (mkF m 45 #[.val (.ref a1), .val (.ref ar), .val (.int (0 : Int32)), .val (.int (2 : Int32)), .val (.int (0 : Int32)), .val (.int r), .val (.int st'), .val (.int pd), .val (.int (2 : Int32)), .val (.int (1 : Int32)), s10, s11] [(.int (1 : Int32))]) _
      refine own_go (fun t_ k_ => XS.iload Xt.here hx rfl (hb hby d4_45) rfl k_) ?_
      show own_G p.tables e below Tt (mkF m 47 #[.val (.ref a1), .val (.ref ar), .val (.int (0 : Int32)), .val (.int (2 : Int32)), .val (.int (0 : Int32)), .val (.int r), .val (.int st'), .val (.int pd), .val (.int (2 : Int32)), .val (.int (1 : Int32)), s10, s11] [(.int (2 : Int32)), (.int (1 : Int32))]) _
      refine own_go (fun t_ k_ => XS.icmpNo Xt.here hx rfl (hb hby d4_47) rfl (tlt (by decide : ((1 : Int32) < (2 : Int32)))).2.1 k_) ?_
      show own_G p.tables e below Tt (mkF m 50 #[.val (.ref a1), .val (.ref ar), .val (.int (0 : Int32)), .val (.int (2 : Int32)), .val (.int (0 : Int32)), .val (.int r), .val (.int st'), .val (.int pd), .val (.int (2 : Int32)), .val (.int (1 : Int32)), s10, s11] []) _
      refine own_go (fun t_ k_ => XS.iload Xt.here hx rfl (hb hby d4_50) rfl k_) ?_
      show own_G p.tables e below Tt (mkF m 52 #[.val (.ref a1), .val (.ref ar), .val (.int (0 : Int32)), .val (.int (2 : Int32)), .val (.int (0 : Int32)), .val (.int r), .val (.int st'), .val (.int pd), .val (.int (2 : Int32)), .val (.int (1 : Int32)), s10, s11] [(.int r)]) _
      refine own_go (fun t_ k_ => XS.iconst Xt.here hx rfl (hb hby d4_52) k_) ?_
      show own_G p.tables e below Tt (mkF m 53 #[.val (.ref a1), .val (.ref ar), .val (.int (0 : Int32)), .val (.int (2 : Int32)), .val (.int (0 : Int32)), .val (.int r), .val (.int st'), .val (.int pd), .val (.int (2 : Int32)), .val (.int (1 : Int32)), s10, s11] [(.int (-1 : Int32)), (.int r)]) _
      refine own_go (fun t_ k_ => XS.icmpYes Xt.here hx rfl (pc0 := 53) (pc' := 151) rfl (hb hby d4_53) rfl (feq hr1).2 (by decide) (by decide) k_) ?_
      show own_G p.tables e below Tt (mkF m 151 #[.val (.ref a1), .val (.ref ar), .val (.int (0 : Int32)), .val (.int (2 : Int32)), .val (.int (0 : Int32)), .val (.int r), .val (.int st'), .val (.int pd), .val (.int (2 : Int32)), .val (.int (1 : Int32)), s10, s11] []) _
      exact exit _ _ _ _ _ _ _ _ Xt et Nt h10 h11 hs hrun
  have turn0 : ∀ (r st' pd : Int32) (s10 s11 : Slot) (Tt : State) (locs : List Loc), Stand p l e ({ frames := 3, cells := 0, slots := 0, locals := 42 } : Room) s m #[(.ref a1), (.ref ar), (.int (0 : Int32)), (.int (2 : Int32))] below meth c Tt locs 0 0 → Tt.heap = h0 → Fr n0 locs → One s10 → One s11 → (st' = 0 ∨ st' = 1) → (own_run [c0, c1] (R0, S0, D0)) = own_run [c0, c1] (r, st', pd) → own_G p.tables e below Tt (mkF m 43 #[.val (.ref a1), .val (.ref ar), .val (.int (0 : Int32)), .val (.int (2 : Int32)), .val (.int (0 : Int32)), .val (.int r), .val (.int st'), .val (.int pd), .val (.int (2 : Int32)), .val (.int (0 : Int32)), s10, s11] []) (own_P below s (Q4n2d1 Z a1 ar aR aS aD kR kS kD R0 R1 S0 S1 D0 D1 ka c0 c1 aP clP h0 n0) (({ frames := 3, cells := 0, slots := 0, locals := 42 } : Room)).cells (({ frames := 3, cells := 0, slots := 0, locals := 42 } : Room)).slots) := by
    intro r st' pd s10 s11 Tt locs Xt et Nt h10 h11 hs hrun
    by_cases hr1 : r = -1
    · subst hr1
      rw [own_run_in] at hrun
      show own_G p.tables e below Tt (mkF m 43 #[.val (.ref a1), .val (.ref ar), .val (.int (0 : Int32)), .val (.int (2 : Int32)), .val (.int (0 : Int32)), .val (.int (-1 : Int32)), .val (.int st'), .val (.int pd), .val (.int (2 : Int32)), .val (.int (0 : Int32)), s10, s11] []) _
      refine own_go (fun t_ k_ => XS.iload Xt.here hx rfl (hb hby d4_43) rfl k_) ?_
      show own_G p.tables e below Tt (mkF m 45 #[.val (.ref a1), .val (.ref ar), .val (.int (0 : Int32)), .val (.int (2 : Int32)), .val (.int (0 : Int32)), .val (.int (-1 : Int32)), .val (.int st'), .val (.int pd), .val (.int (2 : Int32)), .val (.int (0 : Int32)), s10, s11] [(.int (0 : Int32))]) _
      refine own_go (fun t_ k_ => XS.iload Xt.here hx rfl (hb hby d4_45) rfl k_) ?_
      show own_G p.tables e below Tt (mkF m 47 #[.val (.ref a1), .val (.ref ar), .val (.int (0 : Int32)), .val (.int (2 : Int32)), .val (.int (0 : Int32)), .val (.int (-1 : Int32)), .val (.int st'), .val (.int pd), .val (.int (2 : Int32)), .val (.int (0 : Int32)), s10, s11] [(.int (2 : Int32)), (.int (0 : Int32))]) _
      refine own_go (fun t_ k_ => XS.icmpNo Xt.here hx rfl (hb hby d4_47) rfl (tlt (by decide : ((0 : Int32) < (2 : Int32)))).2.1 k_) ?_
      show own_G p.tables e below Tt (mkF m 50 #[.val (.ref a1), .val (.ref ar), .val (.int (0 : Int32)), .val (.int (2 : Int32)), .val (.int (0 : Int32)), .val (.int (-1 : Int32)), .val (.int st'), .val (.int pd), .val (.int (2 : Int32)), .val (.int (0 : Int32)), s10, s11] []) _
      refine own_go (fun t_ k_ => XS.iload Xt.here hx rfl (hb hby d4_50) rfl k_) ?_
      show own_G p.tables e below Tt (mkF m 52 #[.val (.ref a1), .val (.ref ar), .val (.int (0 : Int32)), .val (.int (2 : Int32)), .val (.int (0 : Int32)), .val (.int (-1 : Int32)), .val (.int st'), .val (.int pd), .val (.int (2 : Int32)), .val (.int (0 : Int32)), s10, s11] [(.int (-1 : Int32))]) _
      refine own_go (fun t_ k_ => XS.iconst Xt.here hx rfl (hb hby d4_52) k_) ?_
      show own_G p.tables e below Tt (mkF m 53 #[.val (.ref a1), .val (.ref ar), .val (.int (0 : Int32)), .val (.int (2 : Int32)), .val (.int (0 : Int32)), .val (.int (-1 : Int32)), .val (.int st'), .val (.int pd), .val (.int (2 : Int32)), .val (.int (0 : Int32)), s10, s11] [(.int (-1 : Int32)), (.int (-1 : Int32))]) _
      refine own_go (fun t_ k_ => XS.icmpNo Xt.here hx rfl (hb hby d4_53) rfl (teq (by decide : ((-1 : Int32) = (-1 : Int32)))).2 k_) ?_
      show own_G p.tables e below Tt (mkF m 56 #[.val (.ref a1), .val (.ref ar), .val (.int (0 : Int32)), .val (.int (2 : Int32)), .val (.int (0 : Int32)), .val (.int (-1 : Int32)), .val (.int st'), .val (.int pd), .val (.int (2 : Int32)), .val (.int (0 : Int32)), s10, s11] []) _
      refine own_go (fun t_ k_ => XS.aloadN Xt.here hx rfl (hb hby d4_56) rfl rfl k_) ?_
      show own_G p.tables e below Tt (mkF m 57 #[.val (.ref a1), .val (.ref ar), .val (.int (0 : Int32)), .val (.int (2 : Int32)), .val (.int (0 : Int32)), .val (.int (-1 : Int32)), .val (.int st'), .val (.int pd), .val (.int (2 : Int32)), .val (.int (0 : Int32)), s10, s11] [(.ref ar)]) _
      refine own_go (fun t_ k_ => XS.iload Xt.here hx rfl (hb hby d4_57) rfl k_) ?_
      show own_G p.tables e below Tt (mkF m 59 #[.val (.ref a1), .val (.ref ar), .val (.int (0 : Int32)), .val (.int (2 : Int32)), .val (.int (0 : Int32)), .val (.int (-1 : Int32)), .val (.int st'), .val (.int pd), .val (.int (2 : Int32)), .val (.int (0 : Int32)), s10, s11] [(.int (0 : Int32)), (.ref ar)]) _
      refine own_go (fun t_ k_ => Xt.caload hx (j := (0 : Int32)) (v := (.int c0)) (by rw [et]; exact ArA.1) (State.isArrayOf_alike hZ.alike ArA.2.1) ArA.2.2 hinA0 hatA0 (g := (mkF m 59 #[.val (.ref a1), .val (.ref ar), .val (.int (0 : Int32)), .val (.int (2 : Int32)), .val (.int (0 : Int32)), .val (.int (-1 : Int32)), .val (.int st'), .val (.int pd), .val (.int (2 : Int32)), .val (.int (0 : Int32)), s10, s11] [(.int (0 : Int32)), (.ref ar)])) rfl rfl (hb hby d4_59) _ k_) ?_
      show own_G p.tables e below Tt (mkF m 60 #[.val (.ref a1), .val (.ref ar), .val (.int (0 : Int32)), .val (.int (2 : Int32)), .val (.int (0 : Int32)), .val (.int (-1 : Int32)), .val (.int st'), .val (.int pd), .val (.int (2 : Int32)), .val (.int (0 : Int32)), s10, s11] [(.int c0)]) _
      refine own_go (fun t_ k_ => XS.istoreS Xt.here hx rfl (hb hby d4_60) rfl rfl h10 k_) ?_
      show own_G p.tables e below Tt (mkF m 62 #[.val (.ref a1), .val (.ref ar), .val (.int (0 : Int32)), .val (.int (2 : Int32)), .val (.int (0 : Int32)), .val (.int (-1 : Int32)), .val (.int st'), .val (.int pd), .val (.int (2 : Int32)), .val (.int (0 : Int32)), .val (.int c0), s11] []) _
      refine own_go (fun t_ k_ => XS.iload Xt.here hx rfl (hb hby d4_62) rfl k_) ?_
      show own_G p.tables e below Tt (mkF m 64 #[.val (.ref a1), .val (.ref ar), .val (.int (0 : Int32)), .val (.int (2 : Int32)), .val (.int (0 : Int32)), .val (.int (-1 : Int32)), .val (.int st'), .val (.int pd), .val (.int (2 : Int32)), .val (.int (0 : Int32)), .val (.int c0), s11] [(.int c0)]) _
      obtain ⟨_, _, ⟨T24, L24, k24, n24⟩, -, X24, ⟨Lc24, hQ24, l24, y24, z24⟩, st24⟩ := Jvm.LawKit.callS Xt hx (y := (⟨"com/example/einzug/einzug/rules/XmlCharacters", "isSpace", "(I)Z"⟩ : MethodName)) hown (mvT hZ (hw _ (List.mem_of_getElem? (i := 30) rfl))) (mvT hZ (hw _ (List.mem_of_getElem? (i := 31) rfl))) (mvT hZ (hw _ (List.mem_of_getElem? (i := 32) rfl))) (mvT hZ (hw _ (List.mem_of_getElem? (i := 33) rfl))) (by decide) (backOf (W := 0) (rm5 l Z a0 hw [] c0 h0 n0 Z0) hZ (hw _ (List.mem_of_getElem? (i := 33) rfl)) (hw _ (List.mem_of_getElem? (i := 32) rfl)) (by decide) (by decide)) (g := (mkF m 64 #[.val (.ref a1), .val (.ref ar), .val (.int (0 : Int32)), .val (.int (2 : Int32)), .val (.int (0 : Int32)), .val (.int (-1 : Int32)), .val (.int st'), .val (.int pd), .val (.int (2 : Int32)), .val (.int (0 : Int32)), .val (.int c0), s11] [(.int c0)])) rfl (by rw [hml]; rfl) (argsL := [(.int c0)]) (rest := []) (lenOf own_pd2 rfl) rfl (by show 2 * 0 + _ ≤ _; exact Nat.le_of_eq rfl) (hb hby d4_64) (fun _ _ => ⟨rfl, et, (by decide : 0 + 0 ≤ _), (by decide : 0 + 0 ≤ _)⟩)
      dsimp only [Pt.U, Pt.locs, Pt.cells, Pt.slots] at X24 l24 y24 z24 st24 hQ24
      subst l24 y24 z24
      obtain ⟨rfl, N24q, e24⟩ := hQ24
      have N24 := Fr.app Nt N24q
      refine own_go st24 ?_
      show own_G p.tables e below T24 (mkF m 67 #[.val (.ref a1), .val (.ref ar), .val (.int (0 : Int32)), .val (.int (2 : Int32)), .val (.int (0 : Int32)), .val (.int (-1 : Int32)), .val (.int st'), .val (.int pd), .val (.int (2 : Int32)), .val (.int (0 : Int32)), .val (.int c0), s11] [(.int (own_sp c0))]) _
      by_cases hc67_25 : (own_sp c0) = (0 : Int32)
      · skip
        refine own_go (fun t_ k_ => XS.ifYes X24.here hx rfl (pc0 := 67) (pc' := 95) rfl (hb hby d4_67) rfl ((if0 _ _).trans (teq hc67_25).1) (by decide) (by decide) k_) ?_
        show own_G p.tables e below T24 (mkF m 95 #[.val (.ref a1), .val (.ref ar), .val (.int (0 : Int32)), .val (.int (2 : Int32)), .val (.int (0 : Int32)), .val (.int (-1 : Int32)), .val (.int st'), .val (.int pd), .val (.int (2 : Int32)), .val (.int (0 : Int32)), .val (.int c0), s11] []) _
        refine own_go (fun t_ k_ => XS.iload X24.here hx rfl (hb hby d4_95) rfl k_) ?_
        show own_G p.tables e below T24 (mkF m 97 #[.val (.ref a1), .val (.ref ar), .val (.int (0 : Int32)), .val (.int (2 : Int32)), .val (.int (0 : Int32)), .val (.int (-1 : Int32)), .val (.int st'), .val (.int pd), .val (.int (2 : Int32)), .val (.int (0 : Int32)), .val (.int c0), s11] [(.int pd)]) _
        refine own_go (fun t_ k_ => XS.iconst X24.here hx rfl (hb hby d4_97) k_) ?_
        show own_G p.tables e below T24 (mkF m 98 #[.val (.ref a1), .val (.ref ar), .val (.int (0 : Int32)), .val (.int (2 : Int32)), .val (.int (0 : Int32)), .val (.int (-1 : Int32)), .val (.int st'), .val (.int pd), .val (.int (2 : Int32)), .val (.int (0 : Int32)), .val (.int c0), s11] [(.int (-1 : Int32)), (.int pd)]) _
        by_cases hc98_26 : pd = (-1 : Int32)
        · skip
          refine own_go (fun t_ k_ => XS.icmpYes X24.here hx rfl (pc0 := 98) (pc' := 108) rfl (hb hby d4_98) rfl (teq hc98_26).1 (by decide) (by decide) k_) ?_
          show own_G p.tables e below T24 (mkF m 108 #[.val (.ref a1), .val (.ref ar), .val (.int (0 : Int32)), .val (.int (2 : Int32)), .val (.int (0 : Int32)), .val (.int (-1 : Int32)), .val (.int st'), .val (.int pd), .val (.int (2 : Int32)), .val (.int (0 : Int32)), .val (.int c0), s11] []) _
          refine own_go (fun t_ k_ => XS.iconst X24.here hx rfl (hb hby d4_108) k_) ?_
          show own_G p.tables e below T24 (mkF m 109 #[.val (.ref a1), .val (.ref ar), .val (.int (0 : Int32)), .val (.int (2 : Int32)), .val (.int (0 : Int32)), .val (.int (-1 : Int32)), .val (.int st'), .val (.int pd), .val (.int (2 : Int32)), .val (.int (0 : Int32)), .val (.int c0), s11] [(.int (1 : Int32))]) _
          refine own_go (fun t_ k_ => XS.istore X24.here hx rfl (hb hby d4_109) rfl (l' := #[.val (.ref a1), .val (.ref ar), .val (.int (0 : Int32)), .val (.int (2 : Int32)), .val (.int (0 : Int32)), .val (.int (-1 : Int32)), .val (.int (1 : Int32)), .val (.int pd), .val (.int (2 : Int32)), .val (.int (0 : Int32)), .val (.int c0), s11]) rfl k_) ?_
          show own_G p.tables e below T24 (mkF m 111 #[.val (.ref a1), .val (.ref ar), .val (.int (0 : Int32)), .val (.int (2 : Int32)), .val (.int (0 : Int32)), .val (.int (-1 : Int32)), .val (.int (1 : Int32)), .val (.int pd), .val (.int (2 : Int32)), .val (.int (0 : Int32)), .val (.int c0), s11] []) _
          refine own_go (fun t_ k_ => XS.aloadN X24.here hx rfl (hb hby d4_111) rfl rfl k_) ?_
          show own_G p.tables e below T24 (mkF m 112 #[.val (.ref a1), .val (.ref ar), .val (.int (0 : Int32)), .val (.int (2 : Int32)), .val (.int (0 : Int32)), .val (.int (-1 : Int32)), .val (.int (1 : Int32)), .val (.int pd), .val (.int (2 : Int32)), .val (.int (0 : Int32)), .val (.int c0), s11] [(.ref ar)]) _
          refine own_go (fun t_ k_ => XS.iload X24.here hx rfl (hb hby d4_112) rfl k_) ?_
          show own_G p.tables e below T24 (mkF m 114 #[.val (.ref a1), .val (.ref ar), .val (.int (0 : Int32)), .val (.int (2 : Int32)), .val (.int (0 : Int32)), .val (.int (-1 : Int32)), .val (.int (1 : Int32)), .val (.int pd), .val (.int (2 : Int32)), .val (.int (0 : Int32)), .val (.int c0), s11] [(.int (0 : Int32)), (.ref ar)]) _
          refine own_go (fun t_ k_ => XS.iload X24.here hx rfl (hb hby d4_114) rfl k_) ?_
          show own_G p.tables e below T24 (mkF m 116 #[.val (.ref a1), .val (.ref ar), .val (.int (0 : Int32)), .val (.int (2 : Int32)), .val (.int (0 : Int32)), .val (.int (-1 : Int32)), .val (.int (1 : Int32)), .val (.int pd), .val (.int (2 : Int32)), .val (.int (0 : Int32)), .val (.int c0), s11] [(.int (2 : Int32)), (.int (0 : Int32)), (.ref ar)]) _
          obtain ⟨_, _, ⟨T27, L27, k27, n27⟩, -, X27, ⟨Lc27, hQ27, l27, y27, z27⟩, st27⟩ := Jvm.LawKit.callS X24 hx (y := (⟨"java/lang/Character", "codePointAt", "([CII)I"⟩ : MethodName)) hown (mvT hZ (hw _ (List.mem_of_getElem? (i := 34) rfl))) (mvT hZ (hw _ (List.mem_of_getElem? (i := 35) rfl))) (mvT hZ (hw _ (List.mem_of_getElem? (i := 36) rfl))) (mvT hZ (hw _ (List.mem_of_getElem? (i := 37) rfl))) (by decide) (backOf (W := 0) (rm6 l Z a0 hw [] ar (0 : Int32) (2 : Int32) clA (2 : Int32) c0 h0 n0 Z0 ArA SzA MzA hinA0 hatA0 hc_c0 (by decide) (by decide) (by decide)) hZ (hw _ (List.mem_of_getElem? (i := 37) rfl)) (hw _ (List.mem_of_getElem? (i := 36) rfl)) (by decide) (by decide)) (g := (mkF m 116 #[.val (.ref a1), .val (.ref ar), .val (.int (0 : Int32)), .val (.int (2 : Int32)), .val (.int (0 : Int32)), .val (.int (-1 : Int32)), .val (.int (1 : Int32)), .val (.int pd), .val (.int (2 : Int32)), .val (.int (0 : Int32)), .val (.int c0), s11] [(.int (2 : Int32)), (.int (0 : Int32)), (.ref ar)])) rfl (by rw [hml]; rfl) (argsL := [(.ref ar), (.int (0 : Int32)), (.int (2 : Int32))]) (rest := []) (lenOf own_pd1 rfl) rfl (by show 2 * 0 + _ ≤ _; exact Nat.le_of_eq rfl) (hb hby d4_116) (fun _ _ => ⟨rfl, e24, (by decide : 0 + 0 ≤ _), (by decide : 0 + 0 ≤ _)⟩)
          dsimp only [Pt.U, Pt.locs, Pt.cells, Pt.slots] at X27 l27 y27 z27 st27 hQ27
          subst l27 y27 z27
          obtain ⟨rfl, N27q, e27⟩ := hQ27
          have N27 := Fr.app N24 N27q
          refine own_go st27 ?_
          show own_G p.tables e below T27 (mkF m 119 #[.val (.ref a1), .val (.ref ar), .val (.int (0 : Int32)), .val (.int (2 : Int32)), .val (.int (0 : Int32)), .val (.int (-1 : Int32)), .val (.int (1 : Int32)), .val (.int pd), .val (.int (2 : Int32)), .val (.int (0 : Int32)), .val (.int c0), s11] [(.int c0)]) _
          refine own_go (fun t_ k_ => XS.istoreS X27.here hx rfl (hb hby d4_119) rfl rfl h11 k_) ?_
          show own_G p.tables e below T27 (mkF m 121 #[.val (.ref a1), .val (.ref ar), .val (.int (0 : Int32)), .val (.int (2 : Int32)), .val (.int (0 : Int32)), .val (.int (-1 : Int32)), .val (.int (1 : Int32)), .val (.int pd), .val (.int (2 : Int32)), .val (.int (0 : Int32)), .val (.int c0), .val (.int c0)] []) _
          refine own_go (fun t_ k_ => XS.iload X27.here hx rfl (hb hby d4_121) rfl k_) ?_
          show own_G p.tables e below T27 (mkF m 123 #[.val (.ref a1), .val (.ref ar), .val (.int (0 : Int32)), .val (.int (2 : Int32)), .val (.int (0 : Int32)), .val (.int (-1 : Int32)), .val (.int (1 : Int32)), .val (.int pd), .val (.int (2 : Int32)), .val (.int (0 : Int32)), .val (.int c0), .val (.int c0)] [(.int (0 : Int32))]) _
          refine own_go (fun t_ k_ => XS.iload X27.here hx rfl (hb hby d4_123) rfl k_) ?_
          show own_G p.tables e below T27 (mkF m 125 #[.val (.ref a1), .val (.ref ar), .val (.int (0 : Int32)), .val (.int (2 : Int32)), .val (.int (0 : Int32)), .val (.int (-1 : Int32)), .val (.int (1 : Int32)), .val (.int pd), .val (.int (2 : Int32)), .val (.int (0 : Int32)), .val (.int c0), .val (.int c0)] [(.int c0), (.int (0 : Int32))]) _
          obtain ⟨_, _, ⟨T28, L28, k28, n28⟩, -, X28, ⟨Lc28, hQ28, l28, y28, z28⟩, st28⟩ := Jvm.LawKit.callS X27 hx (y := (⟨"java/lang/Character", "charCount", "(I)I"⟩ : MethodName)) hown (mvT hZ (hw _ (List.mem_of_getElem? (i := 45) rfl))) (mvT hZ (hw _ (List.mem_of_getElem? (i := 46) rfl))) (mvT hZ (hw _ (List.mem_of_getElem? (i := 36) rfl))) (mvT hZ (hw _ (List.mem_of_getElem? (i := 47) rfl))) (by decide) (backOf (W := 1) (rm9 l Z a0 hw [] c0 h0 n0 Z0 hc_c0) hZ (hw _ (List.mem_of_getElem? (i := 47) rfl)) (hw _ (List.mem_of_getElem? (i := 36) rfl)) (by decide) (by decide)) (g := (mkF m 125 #[.val (.ref a1), .val (.ref ar), .val (.int (0 : Int32)), .val (.int (2 : Int32)), .val (.int (0 : Int32)), .val (.int (-1 : Int32)), .val (.int (1 : Int32)), .val (.int pd), .val (.int (2 : Int32)), .val (.int (0 : Int32)), .val (.int c0), .val (.int c0)] [(.int c0), (.int (0 : Int32))])) rfl (by rw [hml]; rfl) (argsL := [(.int c0)]) (rest := [(.int (0 : Int32))]) (lenOf own_pd3 rfl) rfl (by show 2 * 0 + _ ≤ _; exact Nat.le_of_eq rfl) (hb hby d4_125) (fun _ _ => ⟨rfl, e27, (by decide : 0 + 0 ≤ _), (by decide : 0 + 0 ≤ _)⟩)
          dsimp only [Pt.U, Pt.locs, Pt.cells, Pt.slots] at X28 l28 y28 z28 st28 hQ28
          subst l28 y28 z28
          obtain ⟨rfl, N28q, e28⟩ := hQ28
          have N28 := Fr.app N27 N28q
          refine own_go st28 ?_
          show own_G p.tables e below T28 (mkF m 128 #[.val (.ref a1), .val (.ref ar), .val (.int (0 : Int32)), .val (.int (2 : Int32)), .val (.int (0 : Int32)), .val (.int (-1 : Int32)), .val (.int (1 : Int32)), .val (.int pd), .val (.int (2 : Int32)), .val (.int (0 : Int32)), .val (.int c0), .val (.int c0)] [(.int (1 : Int32)), (.int (0 : Int32))]) _
          refine own_go (fun t_ k_ => XS.iconst X28.here hx rfl (hb hby d4_128) k_) ?_
          show own_G p.tables e below T28 (mkF m 129 #[.val (.ref a1), .val (.ref ar), .val (.int (0 : Int32)), .val (.int (2 : Int32)), .val (.int (0 : Int32)), .val (.int (-1 : Int32)), .val (.int (1 : Int32)), .val (.int pd), .val (.int (2 : Int32)), .val (.int (0 : Int32)), .val (.int c0), .val (.int c0)] [(.int (1 : Int32)), (.int (1 : Int32)), (.int (0 : Int32))]) _
          refine own_go (fun t_ k_ => XS.isub X28.here hx rfl (hb hby d4_129) rfl k_) ?_
          show own_G p.tables e below T28 (mkF m 130 #[.val (.ref a1), .val (.ref ar), .val (.int (0 : Int32)), .val (.int (2 : Int32)), .val (.int (0 : Int32)), .val (.int (-1 : Int32)), .val (.int (1 : Int32)), .val (.int pd), .val (.int (2 : Int32)), .val (.int (0 : Int32)), .val (.int c0), .val (.int c0)] [(.int (0 : Int32)), (.int (0 : Int32))]) _
          refine own_go (fun t_ k_ => XS.iadd X28.here hx rfl (hb hby d4_130) rfl k_) ?_
          show own_G p.tables e below T28 (mkF m 131 #[.val (.ref a1), .val (.ref ar), .val (.int (0 : Int32)), .val (.int (2 : Int32)), .val (.int (0 : Int32)), .val (.int (-1 : Int32)), .val (.int (1 : Int32)), .val (.int pd), .val (.int (2 : Int32)), .val (.int (0 : Int32)), .val (.int c0), .val (.int c0)] [(.int (0 : Int32))]) _
          refine own_go (fun t_ k_ => XS.istore X28.here hx rfl (hb hby d4_131) rfl (l' := #[.val (.ref a1), .val (.ref ar), .val (.int (0 : Int32)), .val (.int (2 : Int32)), .val (.int (0 : Int32)), .val (.int (-1 : Int32)), .val (.int (1 : Int32)), .val (.int pd), .val (.int (2 : Int32)), .val (.int (0 : Int32)), .val (.int c0), .val (.int c0)]) rfl k_) ?_
          show own_G p.tables e below T28 (mkF m 133 #[.val (.ref a1), .val (.ref ar), .val (.int (0 : Int32)), .val (.int (2 : Int32)), .val (.int (0 : Int32)), .val (.int (-1 : Int32)), .val (.int (1 : Int32)), .val (.int pd), .val (.int (2 : Int32)), .val (.int (0 : Int32)), .val (.int c0), .val (.int c0)] []) _
          refine own_go (fun t_ k_ => XS.iload X28.here hx rfl (hb hby d4_133) rfl k_) ?_
          show own_G p.tables e below T28 (mkF m 135 #[.val (.ref a1), .val (.ref ar), .val (.int (0 : Int32)), .val (.int (2 : Int32)), .val (.int (0 : Int32)), .val (.int (-1 : Int32)), .val (.int (1 : Int32)), .val (.int pd), .val (.int (2 : Int32)), .val (.int (0 : Int32)), .val (.int c0), .val (.int c0)] [(.int c0)]) _
          obtain ⟨_, _, ⟨T29, L29, k29, n29⟩, -, X29, ⟨Lc29, hQ29, l29, y29, z29⟩, st29⟩ := Jvm.LawKit.callS X28 hx (y := (⟨"com/example/einzug/einzug/rules/PermittedCharacters", "isPermitted", "(I)Z"⟩ : MethodName)) hown (mvT hZ (hw _ (List.mem_of_getElem? (i := 49) rfl))) (mvT hZ (hw _ (List.mem_of_getElem? (i := 50) rfl))) (mvT hZ (hw _ (List.mem_of_getElem? (i := 51) rfl))) (mvT hZ (hw _ (List.mem_of_getElem? (i := 52) rfl))) (by decide) (backOf (W := 0) (rm10 l Z a0 hw [] c0 aP clP h0 n0 Z0 S_P Ar_P sz_P tab_P) hZ (hw _ (List.mem_of_getElem? (i := 52) rfl)) (hw _ (List.mem_of_getElem? (i := 51) rfl)) (by decide) (by decide)) (g := (mkF m 135 #[.val (.ref a1), .val (.ref ar), .val (.int (0 : Int32)), .val (.int (2 : Int32)), .val (.int (0 : Int32)), .val (.int (-1 : Int32)), .val (.int (1 : Int32)), .val (.int pd), .val (.int (2 : Int32)), .val (.int (0 : Int32)), .val (.int c0), .val (.int c0)] [(.int c0)])) rfl (by rw [hml]; rfl) (argsL := [(.int c0)]) (rest := []) (lenOf own_pd2 rfl) rfl (by show 2 * 0 + _ ≤ _; exact Nat.le_of_eq rfl) (hb hby d4_135) (fun _ _ => ⟨rfl, e28, (by decide : 0 + 0 ≤ _), (by decide : 0 + 0 ≤ _)⟩)
          dsimp only [Pt.U, Pt.locs, Pt.cells, Pt.slots] at X29 l29 y29 z29 st29 hQ29
          subst l29 y29 z29
          obtain ⟨rfl, N29q, e29⟩ := hQ29
          have N29 := Fr.app N28 N29q
          refine own_go st29 ?_
          show own_G p.tables e below T29 (mkF m 138 #[.val (.ref a1), .val (.ref ar), .val (.int (0 : Int32)), .val (.int (2 : Int32)), .val (.int (0 : Int32)), .val (.int (-1 : Int32)), .val (.int (1 : Int32)), .val (.int pd), .val (.int (2 : Int32)), .val (.int (0 : Int32)), .val (.int c0), .val (.int c0)] [(.int (own_isp c0))]) _
          by_cases hc138_30 : (own_isp c0) = (0 : Int32)
          · skip
            refine own_go (fun t_ k_ => XS.ifNo X29.here hx rfl (hb hby d4_138) rfl ((if0 _ _).trans (teq hc138_30).2) k_) ?_
            show own_G p.tables e below T29 (mkF m 141 #[.val (.ref a1), .val (.ref ar), .val (.int (0 : Int32)), .val (.int (2 : Int32)), .val (.int (0 : Int32)), .val (.int (-1 : Int32)), .val (.int (1 : Int32)), .val (.int pd), .val (.int (2 : Int32)), .val (.int (0 : Int32)), .val (.int c0), .val (.int c0)] []) _
            refine own_go (fun t_ k_ => XS.iload X29.here hx rfl (hb hby d4_141) rfl k_) ?_
            show own_G p.tables e below T29 (mkF m 143 #[.val (.ref a1), .val (.ref ar), .val (.int (0 : Int32)), .val (.int (2 : Int32)), .val (.int (0 : Int32)), .val (.int (-1 : Int32)), .val (.int (1 : Int32)), .val (.int pd), .val (.int (2 : Int32)), .val (.int (0 : Int32)), .val (.int c0), .val (.int c0)] [(.int c0)]) _
            refine own_go (fun t_ k_ => XS.istore X29.here hx rfl (hb hby d4_143) rfl (l' := #[.val (.ref a1), .val (.ref ar), .val (.int (0 : Int32)), .val (.int (2 : Int32)), .val (.int (0 : Int32)), .val (.int c0), .val (.int (1 : Int32)), .val (.int pd), .val (.int (2 : Int32)), .val (.int (0 : Int32)), .val (.int c0), .val (.int c0)]) rfl k_) ?_
            show own_G p.tables e below T29 (mkF m 145 #[.val (.ref a1), .val (.ref ar), .val (.int (0 : Int32)), .val (.int (2 : Int32)), .val (.int (0 : Int32)), .val (.int c0), .val (.int (1 : Int32)), .val (.int pd), .val (.int (2 : Int32)), .val (.int (0 : Int32)), .val (.int c0), .val (.int c0)] []) _
            refine own_go (fun t_ k_ => XS.iinc X29.here hx rfl (hb hby d4_145) rfl (l' := #[.val (.ref a1), .val (.ref ar), .val (.int (0 : Int32)), .val (.int (2 : Int32)), .val (.int (0 : Int32)), .val (.int c0), .val (.int (1 : Int32)), .val (.int pd), .val (.int (2 : Int32)), .val (.int (1 : Int32)), .val (.int c0), .val (.int c0)]) rfl k_) ?_
            show own_G p.tables e below T29 (mkF m 148 #[.val (.ref a1), .val (.ref ar), .val (.int (0 : Int32)), .val (.int (2 : Int32)), .val (.int (0 : Int32)), .val (.int c0), .val (.int (1 : Int32)), .val (.int pd), .val (.int (2 : Int32)), .val (.int (1 : Int32)), .val (.int c0), .val (.int c0)] []) _
            refine own_go (fun t_ k_ => XS.goto X29.here hx rfl (pc0 := 148) (pc' := 43) rfl (hb hby d4_148) (by decide) (by decide) k_) ?_
            show own_G p.tables e below T29 (mkF m 43 #[.val (.ref a1), .val (.ref ar), .val (.int (0 : Int32)), .val (.int (2 : Int32)), .val (.int (0 : Int32)), .val (.int c0), .val (.int (1 : Int32)), .val (.int pd), .val (.int (2 : Int32)), .val (.int (1 : Int32)), .val (.int c0), .val (.int c0)] []) _
            have hstep : own_step c0 st' pd = (c0, (1 : Int32), pd) := by unfold own_step; rw [if_pos hc67_25, if_pos hc98_26, if_pos hc138_30]
            rw [hstep] at hrun
            exact turn1 _ _ _ _ _ _ _ X29 e29 N29 (One.val rfl) (One.val rfl) (Or.inr rfl) hrun
          · skip
            refine own_go (fun t_ k_ => XS.ifYes X29.here hx rfl (pc0 := 138) (pc' := 145) rfl (hb hby d4_138) rfl ((if0 _ _).trans (feq hc138_30).2) (by decide) (by decide) k_) ?_
            show own_G p.tables e below T29 (mkF m 145 #[.val (.ref a1), .val (.ref ar), .val (.int (0 : Int32)), .val (.int (2 : Int32)), .val (.int (0 : Int32)), .val (.int (-1 : Int32)), .val (.int (1 : Int32)), .val (.int pd), .val (.int (2 : Int32)), .val (.int (0 : Int32)), .val (.int c0), .val (.int c0)] []) _
            refine own_go (fun t_ k_ => XS.iinc X29.here hx rfl (hb hby d4_145) rfl (l' := #[.val (.ref a1), .val (.ref ar), .val (.int (0 : Int32)), .val (.int (2 : Int32)), .val (.int (0 : Int32)), .val (.int (-1 : Int32)), .val (.int (1 : Int32)), .val (.int pd), .val (.int (2 : Int32)), .val (.int (1 : Int32)), .val (.int c0), .val (.int c0)]) rfl k_) ?_
            show own_G p.tables e below T29 (mkF m 148 #[.val (.ref a1), .val (.ref ar), .val (.int (0 : Int32)), .val (.int (2 : Int32)), .val (.int (0 : Int32)), .val (.int (-1 : Int32)), .val (.int (1 : Int32)), .val (.int pd), .val (.int (2 : Int32)), .val (.int (1 : Int32)), .val (.int c0), .val (.int c0)] []) _
            refine own_go (fun t_ k_ => XS.goto X29.here hx rfl (pc0 := 148) (pc' := 43) rfl (hb hby d4_148) (by decide) (by decide) k_) ?_
            show own_G p.tables e below T29 (mkF m 43 #[.val (.ref a1), .val (.ref ar), .val (.int (0 : Int32)), .val (.int (2 : Int32)), .val (.int (0 : Int32)), .val (.int (-1 : Int32)), .val (.int (1 : Int32)), .val (.int pd), .val (.int (2 : Int32)), .val (.int (1 : Int32)), .val (.int c0), .val (.int c0)] []) _
            have hstep : own_step c0 st' pd = ((-1 : Int32), (1 : Int32), pd) := by unfold own_step; rw [if_pos hc67_25, if_pos hc98_26, if_neg hc138_30]
            rw [hstep] at hrun
            exact turn1 _ _ _ _ _ _ _ X29 e29 N29 (One.val rfl) (One.val rfl) (Or.inr rfl) hrun
        · skip
          refine own_go (fun t_ k_ => XS.icmpNo X24.here hx rfl (hb hby d4_98) rfl (feq hc98_26).1 k_) ?_
          show own_G p.tables e below T24 (mkF m 101 #[.val (.ref a1), .val (.ref ar), .val (.int (0 : Int32)), .val (.int (2 : Int32)), .val (.int (0 : Int32)), .val (.int (-1 : Int32)), .val (.int st'), .val (.int pd), .val (.int (2 : Int32)), .val (.int (0 : Int32)), .val (.int c0), s11] []) _
          refine own_go (fun t_ k_ => XS.iload X24.here hx rfl (hb hby d4_101) rfl k_) ?_
          show own_G p.tables e below T24 (mkF m 103 #[.val (.ref a1), .val (.ref ar), .val (.int (0 : Int32)), .val (.int (2 : Int32)), .val (.int (0 : Int32)), .val (.int (-1 : Int32)), .val (.int st'), .val (.int pd), .val (.int (2 : Int32)), .val (.int (0 : Int32)), .val (.int c0), s11] [(.int pd)]) _
          refine own_go (fun t_ k_ => XS.istore X24.here hx rfl (hb hby d4_103) rfl (l' := #[.val (.ref a1), .val (.ref ar), .val (.int (0 : Int32)), .val (.int (2 : Int32)), .val (.int (0 : Int32)), .val (.int pd), .val (.int st'), .val (.int pd), .val (.int (2 : Int32)), .val (.int (0 : Int32)), .val (.int c0), s11]) rfl k_) ?_
          show own_G p.tables e below T24 (mkF m 105 #[.val (.ref a1), .val (.ref ar), .val (.int (0 : Int32)), .val (.int (2 : Int32)), .val (.int (0 : Int32)), .val (.int pd), .val (.int st'), .val (.int pd), .val (.int (2 : Int32)), .val (.int (0 : Int32)), .val (.int c0), s11] []) _
          refine own_go (fun t_ k_ => XS.goto X24.here hx rfl (pc0 := 105) (pc' := 145) rfl (hb hby d4_105) (by decide) (by decide) k_) ?_
          show own_G p.tables e below T24 (mkF m 145 #[.val (.ref a1), .val (.ref ar), .val (.int (0 : Int32)), .val (.int (2 : Int32)), .val (.int (0 : Int32)), .val (.int pd), .val (.int st'), .val (.int pd), .val (.int (2 : Int32)), .val (.int (0 : Int32)), .val (.int c0), s11] []) _
          refine own_go (fun t_ k_ => XS.iinc X24.here hx rfl (hb hby d4_145) rfl (l' := #[.val (.ref a1), .val (.ref ar), .val (.int (0 : Int32)), .val (.int (2 : Int32)), .val (.int (0 : Int32)), .val (.int pd), .val (.int st'), .val (.int pd), .val (.int (2 : Int32)), .val (.int (1 : Int32)), .val (.int c0), s11]) rfl k_) ?_
          show own_G p.tables e below T24 (mkF m 148 #[.val (.ref a1), .val (.ref ar), .val (.int (0 : Int32)), .val (.int (2 : Int32)), .val (.int (0 : Int32)), .val (.int pd), .val (.int st'), .val (.int pd), .val (.int (2 : Int32)), .val (.int (1 : Int32)), .val (.int c0), s11] []) _
          refine own_go (fun t_ k_ => XS.goto X24.here hx rfl (pc0 := 148) (pc' := 43) rfl (hb hby d4_148) (by decide) (by decide) k_) ?_
          show own_G p.tables e below T24 (mkF m 43 #[.val (.ref a1), .val (.ref ar), .val (.int (0 : Int32)), .val (.int (2 : Int32)), .val (.int (0 : Int32)), .val (.int pd), .val (.int st'), .val (.int pd), .val (.int (2 : Int32)), .val (.int (1 : Int32)), .val (.int c0), s11] []) _
          have hstep : own_step c0 st' pd = (pd, st', pd) := by unfold own_step; rw [if_pos hc67_25, if_neg hc98_26]
          rw [hstep] at hrun
          exact turn1 _ _ _ _ _ _ _ X24 e24 N24 (One.val rfl) h11 hs hrun
      · skip
        refine own_go (fun t_ k_ => XS.ifNo X24.here hx rfl (hb hby d4_67) rfl ((if0 _ _).trans (feq hc67_25).1) k_) ?_
        show own_G p.tables e below T24 (mkF m 70 #[.val (.ref a1), .val (.ref ar), .val (.int (0 : Int32)), .val (.int (2 : Int32)), .val (.int (0 : Int32)), .val (.int (-1 : Int32)), .val (.int st'), .val (.int pd), .val (.int (2 : Int32)), .val (.int (0 : Int32)), .val (.int c0), s11] []) _
        refine own_go (fun t_ k_ => XS.iload X24.here hx rfl (hb hby d4_70) rfl k_) ?_
        show own_G p.tables e below T24 (mkF m 72 #[.val (.ref a1), .val (.ref ar), .val (.int (0 : Int32)), .val (.int (2 : Int32)), .val (.int (0 : Int32)), .val (.int (-1 : Int32)), .val (.int st'), .val (.int pd), .val (.int (2 : Int32)), .val (.int (0 : Int32)), .val (.int c0), s11] [(.int st')]) _
        by_cases hc72_31 : st' = (0 : Int32)
        · skip
          refine own_go (fun t_ k_ => XS.ifYes X24.here hx rfl (pc0 := 72) (pc' := 145) rfl (hb hby d4_72) rfl ((if0 _ _).trans (teq hc72_31).1) (by decide) (by decide) k_) ?_
          show own_G p.tables e below T24 (mkF m 145 #[.val (.ref a1), .val (.ref ar), .val (.int (0 : Int32)), .val (.int (2 : Int32)), .val (.int (0 : Int32)), .val (.int (-1 : Int32)), .val (.int st'), .val (.int pd), .val (.int (2 : Int32)), .val (.int (0 : Int32)), .val (.int c0), s11] []) _
          refine own_go (fun t_ k_ => XS.iinc X24.here hx rfl (hb hby d4_145) rfl (l' := #[.val (.ref a1), .val (.ref ar), .val (.int (0 : Int32)), .val (.int (2 : Int32)), .val (.int (0 : Int32)), .val (.int (-1 : Int32)), .val (.int st'), .val (.int pd), .val (.int (2 : Int32)), .val (.int (1 : Int32)), .val (.int c0), s11]) rfl k_) ?_
          show own_G p.tables e below T24 (mkF m 148 #[.val (.ref a1), .val (.ref ar), .val (.int (0 : Int32)), .val (.int (2 : Int32)), .val (.int (0 : Int32)), .val (.int (-1 : Int32)), .val (.int st'), .val (.int pd), .val (.int (2 : Int32)), .val (.int (1 : Int32)), .val (.int c0), s11] []) _
          refine own_go (fun t_ k_ => XS.goto X24.here hx rfl (pc0 := 148) (pc' := 43) rfl (hb hby d4_148) (by decide) (by decide) k_) ?_
          show own_G p.tables e below T24 (mkF m 43 #[.val (.ref a1), .val (.ref ar), .val (.int (0 : Int32)), .val (.int (2 : Int32)), .val (.int (0 : Int32)), .val (.int (-1 : Int32)), .val (.int st'), .val (.int pd), .val (.int (2 : Int32)), .val (.int (1 : Int32)), .val (.int c0), s11] []) _
          have hstep : own_step c0 st' pd = ((-1 : Int32), st', pd) := by unfold own_step; rw [if_neg hc67_25, if_pos hc72_31]
          rw [hstep] at hrun
          exact turn1 _ _ _ _ _ _ _ X24 e24 N24 (One.val rfl) h11 hs hrun
        · skip
          refine own_go (fun t_ k_ => XS.ifNo X24.here hx rfl (hb hby d4_72) rfl ((if0 _ _).trans (feq hc72_31).1) k_) ?_
          show own_G p.tables e below T24 (mkF m 75 #[.val (.ref a1), .val (.ref ar), .val (.int (0 : Int32)), .val (.int (2 : Int32)), .val (.int (0 : Int32)), .val (.int (-1 : Int32)), .val (.int st'), .val (.int pd), .val (.int (2 : Int32)), .val (.int (0 : Int32)), .val (.int c0), s11] []) _
          refine own_go (fun t_ k_ => XS.iload X24.here hx rfl (hb hby d4_75) rfl k_) ?_
          show own_G p.tables e below T24 (mkF m 77 #[.val (.ref a1), .val (.ref ar), .val (.int (0 : Int32)), .val (.int (2 : Int32)), .val (.int (0 : Int32)), .val (.int (-1 : Int32)), .val (.int st'), .val (.int pd), .val (.int (2 : Int32)), .val (.int (0 : Int32)), .val (.int c0), s11] [(.int c0)]) _
          refine own_go (fun t_ k_ => XS.bipush X24.here hx rfl (hb hby d4_77) k_) ?_
          show own_G p.tables e below T24 (mkF m 79 #[.val (.ref a1), .val (.ref ar), .val (.int (0 : Int32)), .val (.int (2 : Int32)), .val (.int (0 : Int32)), .val (.int (-1 : Int32)), .val (.int st'), .val (.int pd), .val (.int (2 : Int32)), .val (.int (0 : Int32)), .val (.int c0), s11] [(.int (32 : Int32)), (.int c0)]) _
          by_cases hc79_32 : c0 = (32 : Int32)
          · skip
            refine own_go (fun t_ k_ => XS.icmpYes X24.here hx rfl (pc0 := 79) (pc' := 145) rfl (hb hby d4_79) rfl (teq hc79_32).1 (by decide) (by decide) k_) ?_
            show own_G p.tables e below T24 (mkF m 145 #[.val (.ref a1), .val (.ref ar), .val (.int (0 : Int32)), .val (.int (2 : Int32)), .val (.int (0 : Int32)), .val (.int (-1 : Int32)), .val (.int st'), .val (.int pd), .val (.int (2 : Int32)), .val (.int (0 : Int32)), .val (.int c0), s11] []) _
            refine own_go (fun t_ k_ => XS.iinc X24.here hx rfl (hb hby d4_145) rfl (l' := #[.val (.ref a1), .val (.ref ar), .val (.int (0 : Int32)), .val (.int (2 : Int32)), .val (.int (0 : Int32)), .val (.int (-1 : Int32)), .val (.int st'), .val (.int pd), .val (.int (2 : Int32)), .val (.int (1 : Int32)), .val (.int c0), s11]) rfl k_) ?_
            show own_G p.tables e below T24 (mkF m 148 #[.val (.ref a1), .val (.ref ar), .val (.int (0 : Int32)), .val (.int (2 : Int32)), .val (.int (0 : Int32)), .val (.int (-1 : Int32)), .val (.int st'), .val (.int pd), .val (.int (2 : Int32)), .val (.int (1 : Int32)), .val (.int c0), s11] []) _
            refine own_go (fun t_ k_ => XS.goto X24.here hx rfl (pc0 := 148) (pc' := 43) rfl (hb hby d4_148) (by decide) (by decide) k_) ?_
            show own_G p.tables e below T24 (mkF m 43 #[.val (.ref a1), .val (.ref ar), .val (.int (0 : Int32)), .val (.int (2 : Int32)), .val (.int (0 : Int32)), .val (.int (-1 : Int32)), .val (.int st'), .val (.int pd), .val (.int (2 : Int32)), .val (.int (1 : Int32)), .val (.int c0), s11] []) _
            have hstep : own_step c0 st' pd = ((-1 : Int32), st', pd) := by unfold own_step; rw [if_neg hc67_25, if_neg hc72_31, if_pos hc79_32]
            rw [hstep] at hrun
            exact turn1 _ _ _ _ _ _ _ X24 e24 N24 (One.val rfl) h11 hs hrun
          · skip
            refine own_go (fun t_ k_ => XS.icmpNo X24.here hx rfl (hb hby d4_79) rfl (feq hc79_32).1 k_) ?_
            show own_G p.tables e below T24 (mkF m 82 #[.val (.ref a1), .val (.ref ar), .val (.int (0 : Int32)), .val (.int (2 : Int32)), .val (.int (0 : Int32)), .val (.int (-1 : Int32)), .val (.int st'), .val (.int pd), .val (.int (2 : Int32)), .val (.int (0 : Int32)), .val (.int c0), s11] []) _
            refine own_go (fun t_ k_ => XS.iload X24.here hx rfl (hb hby d4_82) rfl k_) ?_
            show own_G p.tables e below T24 (mkF m 84 #[.val (.ref a1), .val (.ref ar), .val (.int (0 : Int32)), .val (.int (2 : Int32)), .val (.int (0 : Int32)), .val (.int (-1 : Int32)), .val (.int st'), .val (.int pd), .val (.int (2 : Int32)), .val (.int (0 : Int32)), .val (.int c0), s11] [(.int pd)]) _
            refine own_go (fun t_ k_ => XS.iconst X24.here hx rfl (hb hby d4_84) k_) ?_
            show own_G p.tables e below T24 (mkF m 85 #[.val (.ref a1), .val (.ref ar), .val (.int (0 : Int32)), .val (.int (2 : Int32)), .val (.int (0 : Int32)), .val (.int (-1 : Int32)), .val (.int st'), .val (.int pd), .val (.int (2 : Int32)), .val (.int (0 : Int32)), .val (.int c0), s11] [(.int (-1 : Int32)), (.int pd)]) _
            by_cases hc85_33 : pd = (-1 : Int32)
            · skip
              refine own_go (fun t_ k_ => XS.icmpNo X24.here hx rfl (hb hby d4_85) rfl (teq hc85_33).2 k_) ?_
              show own_G p.tables e below T24 (mkF m 88 #[.val (.ref a1), .val (.ref ar), .val (.int (0 : Int32)), .val (.int (2 : Int32)), .val (.int (0 : Int32)), .val (.int (-1 : Int32)), .val (.int st'), .val (.int pd), .val (.int (2 : Int32)), .val (.int (0 : Int32)), .val (.int c0), s11] []) _
              refine own_go (fun t_ k_ => XS.iload X24.here hx rfl (hb hby d4_88) rfl k_) ?_
              show own_G p.tables e below T24 (mkF m 90 #[.val (.ref a1), .val (.ref ar), .val (.int (0 : Int32)), .val (.int (2 : Int32)), .val (.int (0 : Int32)), .val (.int (-1 : Int32)), .val (.int st'), .val (.int pd), .val (.int (2 : Int32)), .val (.int (0 : Int32)), .val (.int c0), s11] [(.int c0)]) _
              refine own_go (fun t_ k_ => XS.istore X24.here hx rfl (hb hby d4_90) rfl (l' := #[.val (.ref a1), .val (.ref ar), .val (.int (0 : Int32)), .val (.int (2 : Int32)), .val (.int (0 : Int32)), .val (.int (-1 : Int32)), .val (.int st'), .val (.int c0), .val (.int (2 : Int32)), .val (.int (0 : Int32)), .val (.int c0), s11]) rfl k_) ?_
              show own_G p.tables e below T24 (mkF m 92 #[.val (.ref a1), .val (.ref ar), .val (.int (0 : Int32)), .val (.int (2 : Int32)), .val (.int (0 : Int32)), .val (.int (-1 : Int32)), .val (.int st'), .val (.int c0), .val (.int (2 : Int32)), .val (.int (0 : Int32)), .val (.int c0), s11] []) _
              refine own_go (fun t_ k_ => XS.goto X24.here hx rfl (pc0 := 92) (pc' := 145) rfl (hb hby d4_92) (by decide) (by decide) k_) ?_
              show own_G p.tables e below T24 (mkF m 145 #[.val (.ref a1), .val (.ref ar), .val (.int (0 : Int32)), .val (.int (2 : Int32)), .val (.int (0 : Int32)), .val (.int (-1 : Int32)), .val (.int st'), .val (.int c0), .val (.int (2 : Int32)), .val (.int (0 : Int32)), .val (.int c0), s11] []) _
              refine own_go (fun t_ k_ => XS.iinc X24.here hx rfl (hb hby d4_145) rfl (l' := #[.val (.ref a1), .val (.ref ar), .val (.int (0 : Int32)), .val (.int (2 : Int32)), .val (.int (0 : Int32)), .val (.int (-1 : Int32)), .val (.int st'), .val (.int c0), .val (.int (2 : Int32)), .val (.int (1 : Int32)), .val (.int c0), s11]) rfl k_) ?_
              show own_G p.tables e below T24 (mkF m 148 #[.val (.ref a1), .val (.ref ar), .val (.int (0 : Int32)), .val (.int (2 : Int32)), .val (.int (0 : Int32)), .val (.int (-1 : Int32)), .val (.int st'), .val (.int c0), .val (.int (2 : Int32)), .val (.int (1 : Int32)), .val (.int c0), s11] []) _
              refine own_go (fun t_ k_ => XS.goto X24.here hx rfl (pc0 := 148) (pc' := 43) rfl (hb hby d4_148) (by decide) (by decide) k_) ?_
              show own_G p.tables e below T24 (mkF m 43 #[.val (.ref a1), .val (.ref ar), .val (.int (0 : Int32)), .val (.int (2 : Int32)), .val (.int (0 : Int32)), .val (.int (-1 : Int32)), .val (.int st'), .val (.int c0), .val (.int (2 : Int32)), .val (.int (1 : Int32)), .val (.int c0), s11] []) _
              have hstep : own_step c0 st' pd = ((-1 : Int32), st', c0) := by unfold own_step; rw [if_neg hc67_25, if_neg hc72_31, if_neg hc79_32, if_pos hc85_33]
              rw [hstep] at hrun
              exact turn1 _ _ _ _ _ _ _ X24 e24 N24 (One.val rfl) h11 hs hrun
            · skip
              refine own_go (fun t_ k_ => XS.icmpYes X24.here hx rfl (pc0 := 85) (pc' := 145) rfl (hb hby d4_85) rfl (feq hc85_33).2 (by decide) (by decide) k_) ?_
              show own_G p.tables e below T24 (mkF m 145 #[.val (.ref a1), .val (.ref ar), .val (.int (0 : Int32)), .val (.int (2 : Int32)), .val (.int (0 : Int32)), .val (.int (-1 : Int32)), .val (.int st'), .val (.int pd), .val (.int (2 : Int32)), .val (.int (0 : Int32)), .val (.int c0), s11] []) _
              refine own_go (fun t_ k_ => XS.iinc X24.here hx rfl (hb hby d4_145) rfl (l' := #[.val (.ref a1), .val (.ref ar), .val (.int (0 : Int32)), .val (.int (2 : Int32)), .val (.int (0 : Int32)), .val (.int (-1 : Int32)), .val (.int st'), .val (.int pd), .val (.int (2 : Int32)), .val (.int (1 : Int32)), .val (.int c0), s11]) rfl k_) ?_
              show own_G p.tables e below T24 (mkF m 148 #[.val (.ref a1), .val (.ref ar), .val (.int (0 : Int32)), .val (.int (2 : Int32)), .val (.int (0 : Int32)), .val (.int (-1 : Int32)), .val (.int st'), .val (.int pd), .val (.int (2 : Int32)), .val (.int (1 : Int32)), .val (.int c0), s11] []) _
              refine own_go (fun t_ k_ => XS.goto X24.here hx rfl (pc0 := 148) (pc' := 43) rfl (hb hby d4_148) (by decide) (by decide) k_) ?_
              show own_G p.tables e below T24 (mkF m 43 #[.val (.ref a1), .val (.ref ar), .val (.int (0 : Int32)), .val (.int (2 : Int32)), .val (.int (0 : Int32)), .val (.int (-1 : Int32)), .val (.int st'), .val (.int pd), .val (.int (2 : Int32)), .val (.int (1 : Int32)), .val (.int c0), s11] []) _
              have hstep : own_step c0 st' pd = ((-1 : Int32), st', pd) := by unfold own_step; rw [if_neg hc67_25, if_neg hc72_31, if_neg hc79_32, if_neg hc85_33]
              rw [hstep] at hrun
              exact turn1 _ _ _ _ _ _ _ X24 e24 N24 (One.val rfl) h11 hs hrun
    · rw [own_run_out _ _ hr1] at hrun
      show own_G p.tables e below Tt (mkF m 43 #[.val (.ref a1), .val (.ref ar), .val (.int (0 : Int32)), .val (.int (2 : Int32)), .val (.int (0 : Int32)), .val (.int r), .val (.int st'), .val (.int pd), .val (.int (2 : Int32)), .val (.int (0 : Int32)), s10, s11] []) _
      refine own_go (fun t_ k_ => XS.iload Xt.here hx rfl (hb hby d4_43) rfl k_) ?_
      show own_G p.tables e below Tt (mkF m 45 #[.val (.ref a1), .val (.ref ar), .val (.int (0 : Int32)), .val (.int (2 : Int32)), .val (.int (0 : Int32)), .val (.int r), .val (.int st'), .val (.int pd), .val (.int (2 : Int32)), .val (.int (0 : Int32)), s10, s11] [(.int (0 : Int32))]) _
      refine own_go (fun t_ k_ => XS.iload Xt.here hx rfl (hb hby d4_45) rfl k_) ?_
      show own_G p.tables e below Tt (mkF m 47 #[.val (.ref a1), .val (.ref ar), .val (.int (0 : Int32)), .val (.int (2 : Int32)), .val (.int (0 : Int32)), .val (.int r), .val (.int st'), .val (.int pd), .val (.int (2 : Int32)), .val (.int (0 : Int32)), s10, s11] [(.int (2 : Int32)), (.int (0 : Int32))]) _
      refine own_go (fun t_ k_ => XS.icmpNo Xt.here hx rfl (hb hby d4_47) rfl (tlt (by decide : ((0 : Int32) < (2 : Int32)))).2.1 k_) ?_
      show own_G p.tables e below Tt (mkF m 50 #[.val (.ref a1), .val (.ref ar), .val (.int (0 : Int32)), .val (.int (2 : Int32)), .val (.int (0 : Int32)), .val (.int r), .val (.int st'), .val (.int pd), .val (.int (2 : Int32)), .val (.int (0 : Int32)), s10, s11] []) _
      refine own_go (fun t_ k_ => XS.iload Xt.here hx rfl (hb hby d4_50) rfl k_) ?_
      show own_G p.tables e below Tt (mkF m 52 #[.val (.ref a1), .val (.ref ar), .val (.int (0 : Int32)), .val (.int (2 : Int32)), .val (.int (0 : Int32)), .val (.int r), .val (.int st'), .val (.int pd), .val (.int (2 : Int32)), .val (.int (0 : Int32)), s10, s11] [(.int r)]) _
      refine own_go (fun t_ k_ => XS.iconst Xt.here hx rfl (hb hby d4_52) k_) ?_
      show own_G p.tables e below Tt (mkF m 53 #[.val (.ref a1), .val (.ref ar), .val (.int (0 : Int32)), .val (.int (2 : Int32)), .val (.int (0 : Int32)), .val (.int r), .val (.int st'), .val (.int pd), .val (.int (2 : Int32)), .val (.int (0 : Int32)), s10, s11] [(.int (-1 : Int32)), (.int r)]) _
      refine own_go (fun t_ k_ => XS.icmpYes Xt.here hx rfl (pc0 := 53) (pc' := 151) rfl (hb hby d4_53) rfl (feq hr1).2 (by decide) (by decide) k_) ?_
      show own_G p.tables e below Tt (mkF m 151 #[.val (.ref a1), .val (.ref ar), .val (.int (0 : Int32)), .val (.int (2 : Int32)), .val (.int (0 : Int32)), .val (.int r), .val (.int st'), .val (.int pd), .val (.int (2 : Int32)), .val (.int (0 : Int32)), s10, s11] []) _
      exact exit _ _ _ _ _ _ _ _ Xt et Nt h10 h11 hs hrun
  show own_G p.tables e below s₁ (mkF m 0 #[.val (.ref a1), .val (.ref ar), .val (.int (0 : Int32)), .val (.int (2 : Int32)), .unset, .unset, .unset, .unset, .unset, .unset, .unset, .unset] []) _
  refine own_go (fun t_ k_ => XS.aloadN X0.here hx rfl (hb hby d4_0) rfl rfl k_) ?_
  show own_G p.tables e below s₁ (mkF m 1 #[.val (.ref a1), .val (.ref ar), .val (.int (0 : Int32)), .val (.int (2 : Int32)), .unset, .unset, .unset, .unset, .unset, .unset, .unset, .unset] [(.ref a1)]) _
  obtain ⟨T34, X34, e34, st34⟩ := getF X0 hx hZ hown (host := "") (Or.inl (hw _ (List.mem_of_getElem? (i := 23) rfl))) Via.refl e0 F_depth (g := (mkF m 1 #[.val (.ref a1), .val (.ref ar), .val (.int (0 : Int32)), .val (.int (2 : Int32)), .unset, .unset, .unset, .unset, .unset, .unset, .unset, .unset] [(.ref a1)])) rfl rfl (hb hby d4_1)
  refine own_go st34 ?_
  show own_G p.tables e below T34 (mkF m 4 #[.val (.ref a1), .val (.ref ar), .val (.int (0 : Int32)), .val (.int (2 : Int32)), .unset, .unset, .unset, .unset, .unset, .unset, .unset, .unset] [(.int (1 : Int32))]) _
  refine own_go (fun t_ k_ => XS.iconst X34.here hx rfl (hb hby d4_4) k_) ?_
  show own_G p.tables e below T34 (mkF m 5 #[.val (.ref a1), .val (.ref ar), .val (.int (0 : Int32)), .val (.int (2 : Int32)), .unset, .unset, .unset, .unset, .unset, .unset, .unset, .unset] [(.int (1 : Int32)), (.int (1 : Int32))]) _
  refine own_go (fun t_ k_ => XS.isub X34.here hx rfl (hb hby d4_5) rfl k_) ?_
  show own_G p.tables e below T34 (mkF m 6 #[.val (.ref a1), .val (.ref ar), .val (.int (0 : Int32)), .val (.int (2 : Int32)), .unset, .unset, .unset, .unset, .unset, .unset, .unset, .unset] [(.int (0 : Int32))]) _
  refine own_go (fun t_ k_ => XS.istore X34.here hx rfl (hb hby d4_6) rfl (l' := #[.val (.ref a1), .val (.ref ar), .val (.int (0 : Int32)), .val (.int (2 : Int32)), .val (.int (0 : Int32)), .unset, .unset, .unset, .unset, .unset, .unset, .unset]) rfl k_) ?_
  show own_G p.tables e below T34 (mkF m 8 #[.val (.ref a1), .val (.ref ar), .val (.int (0 : Int32)), .val (.int (2 : Int32)), .val (.int (0 : Int32)), .unset, .unset, .unset, .unset, .unset, .unset, .unset] []) _
  refine own_go (fun t_ k_ => XS.aloadN X34.here hx rfl (hb hby d4_8) rfl rfl k_) ?_
  show own_G p.tables e below T34 (mkF m 9 #[.val (.ref a1), .val (.ref ar), .val (.int (0 : Int32)), .val (.int (2 : Int32)), .val (.int (0 : Int32)), .unset, .unset, .unset, .unset, .unset, .unset, .unset] [(.ref a1)]) _
  obtain ⟨T35, X35, e35, st35⟩ := getF X34 hx hZ hown (host := "") (Or.inl (hw _ (List.mem_of_getElem? (i := 11) rfl))) Via.refl e34 F_refused (g := (mkF m 9 #[.val (.ref a1), .val (.ref ar), .val (.int (0 : Int32)), .val (.int (2 : Int32)), .val (.int (0 : Int32)), .unset, .unset, .unset, .unset, .unset, .unset, .unset] [(.ref a1)])) rfl rfl (hb hby d4_9)
  refine own_go st35 ?_
  show own_G p.tables e below T35 (mkF m 12 #[.val (.ref a1), .val (.ref ar), .val (.int (0 : Int32)), .val (.int (2 : Int32)), .val (.int (0 : Int32)), .unset, .unset, .unset, .unset, .unset, .unset, .unset] [(.ref aR)]) _
  refine own_go (fun t_ k_ => XS.iload X35.here hx rfl (hb hby d4_12) rfl k_) ?_
  show own_G p.tables e below T35 (mkF m 14 #[.val (.ref a1), .val (.ref ar), .val (.int (0 : Int32)), .val (.int (2 : Int32)), .val (.int (0 : Int32)), .unset, .unset, .unset, .unset, .unset, .unset, .unset] [(.int (0 : Int32)), (.ref aR)]) _
  obtain ⟨cl36, Ar36, -, S36, M36, H36, -⟩ := id V_refused
  have hin36_14 : ¬ ((0 : Int32) < 0 ∨ cl36.slots.size ≤ ((0 : Int32)).toNatClampNeg) := inb_of S36 ⟨by decide, by decide⟩
  refine own_go (fun t_ k_ => X35.iaload hx (j := (0 : Int32)) (v := (.int R0)) (by rw [e35]; exact Ar36.1) (State.isArrayOf_alike hZ.alike Ar36.2.1) Ar36.2.2 hin36_14 (H36.at hin36_14 rfl) (g := (mkF m 14 #[.val (.ref a1), .val (.ref ar), .val (.int (0 : Int32)), .val (.int (2 : Int32)), .val (.int (0 : Int32)), .unset, .unset, .unset, .unset, .unset, .unset, .unset] [(.int (0 : Int32)), (.ref aR)])) rfl rfl (hb hby d4_14) _ k_) ?_
  show own_G p.tables e below T35 (mkF m 15 #[.val (.ref a1), .val (.ref ar), .val (.int (0 : Int32)), .val (.int (2 : Int32)), .val (.int (0 : Int32)), .unset, .unset, .unset, .unset, .unset, .unset, .unset] [(.int R0)]) _
  refine own_go (fun t_ k_ => XS.istore X35.here hx rfl (hb hby d4_15) rfl (l' := #[.val (.ref a1), .val (.ref ar), .val (.int (0 : Int32)), .val (.int (2 : Int32)), .val (.int (0 : Int32)), .val (.int R0), .unset, .unset, .unset, .unset, .unset, .unset]) rfl k_) ?_
  show own_G p.tables e below T35 (mkF m 17 #[.val (.ref a1), .val (.ref ar), .val (.int (0 : Int32)), .val (.int (2 : Int32)), .val (.int (0 : Int32)), .val (.int R0), .unset, .unset, .unset, .unset, .unset, .unset] []) _
  refine own_go (fun t_ k_ => XS.aloadN X35.here hx rfl (hb hby d4_17) rfl rfl k_) ?_
  show own_G p.tables e below T35 (mkF m 18 #[.val (.ref a1), .val (.ref ar), .val (.int (0 : Int32)), .val (.int (2 : Int32)), .val (.int (0 : Int32)), .val (.int R0), .unset, .unset, .unset, .unset, .unset, .unset] [(.ref a1)]) _
  obtain ⟨T37, X37, e37, st37⟩ := getF X35 hx hZ hown (host := "") (Or.inl (hw _ (List.mem_of_getElem? (i := 14) rfl))) Via.refl e35 F_started (g := (mkF m 18 #[.val (.ref a1), .val (.ref ar), .val (.int (0 : Int32)), .val (.int (2 : Int32)), .val (.int (0 : Int32)), .val (.int R0), .unset, .unset, .unset, .unset, .unset, .unset] [(.ref a1)])) rfl rfl (hb hby d4_18)
  refine own_go st37 ?_
  show own_G p.tables e below T37 (mkF m 21 #[.val (.ref a1), .val (.ref ar), .val (.int (0 : Int32)), .val (.int (2 : Int32)), .val (.int (0 : Int32)), .val (.int R0), .unset, .unset, .unset, .unset, .unset, .unset] [(.ref aS)]) _
  refine own_go (fun t_ k_ => XS.iload X37.here hx rfl (hb hby d4_21) rfl k_) ?_
  show own_G p.tables e below T37 (mkF m 23 #[.val (.ref a1), .val (.ref ar), .val (.int (0 : Int32)), .val (.int (2 : Int32)), .val (.int (0 : Int32)), .val (.int R0), .unset, .unset, .unset, .unset, .unset, .unset] [(.int (0 : Int32)), (.ref aS)]) _
  obtain ⟨cl38, Ar38, -, S38, M38, H38, -⟩ := id V_started
  have hin38_23 : ¬ ((0 : Int32) < 0 ∨ cl38.slots.size ≤ ((0 : Int32)).toNatClampNeg) := inb_of S38 ⟨by decide, by decide⟩
  refine own_go (fun t_ k_ => X37.baloadBooleans hx (j := (0 : Int32)) (v := (.int S0)) (by rw [e37]; exact Ar38.1) (State.isArrayOf_alike hZ.alike Ar38.2.1) Ar38.2.2 hin38_23 (H38.at hin38_23 rfl) (g := (mkF m 23 #[.val (.ref a1), .val (.ref ar), .val (.int (0 : Int32)), .val (.int (2 : Int32)), .val (.int (0 : Int32)), .val (.int R0), .unset, .unset, .unset, .unset, .unset, .unset] [(.int (0 : Int32)), (.ref aS)])) rfl rfl (hb hby d4_23) _ k_) ?_
  show own_G p.tables e below T37 (mkF m 24 #[.val (.ref a1), .val (.ref ar), .val (.int (0 : Int32)), .val (.int (2 : Int32)), .val (.int (0 : Int32)), .val (.int R0), .unset, .unset, .unset, .unset, .unset, .unset] [(.int S0)]) _
  refine own_go (fun t_ k_ => XS.istore X37.here hx rfl (hb hby d4_24) rfl (l' := #[.val (.ref a1), .val (.ref ar), .val (.int (0 : Int32)), .val (.int (2 : Int32)), .val (.int (0 : Int32)), .val (.int R0), .val (.int S0), .unset, .unset, .unset, .unset, .unset]) rfl k_) ?_
  show own_G p.tables e below T37 (mkF m 26 #[.val (.ref a1), .val (.ref ar), .val (.int (0 : Int32)), .val (.int (2 : Int32)), .val (.int (0 : Int32)), .val (.int R0), .val (.int S0), .unset, .unset, .unset, .unset, .unset] []) _
  refine own_go (fun t_ k_ => XS.aloadN X37.here hx rfl (hb hby d4_26) rfl rfl k_) ?_
  show own_G p.tables e below T37 (mkF m 27 #[.val (.ref a1), .val (.ref ar), .val (.int (0 : Int32)), .val (.int (2 : Int32)), .val (.int (0 : Int32)), .val (.int R0), .val (.int S0), .unset, .unset, .unset, .unset, .unset] [(.ref a1)]) _
  obtain ⟨T39, X39, e39, st39⟩ := getF X37 hx hZ hown (host := "") (Or.inl (hw _ (List.mem_of_getElem? (i := 16) rfl))) Via.refl e37 F_pending (g := (mkF m 27 #[.val (.ref a1), .val (.ref ar), .val (.int (0 : Int32)), .val (.int (2 : Int32)), .val (.int (0 : Int32)), .val (.int R0), .val (.int S0), .unset, .unset, .unset, .unset, .unset] [(.ref a1)])) rfl rfl (hb hby d4_27)
  refine own_go st39 ?_
  show own_G p.tables e below T39 (mkF m 30 #[.val (.ref a1), .val (.ref ar), .val (.int (0 : Int32)), .val (.int (2 : Int32)), .val (.int (0 : Int32)), .val (.int R0), .val (.int S0), .unset, .unset, .unset, .unset, .unset] [(.ref aD)]) _
  refine own_go (fun t_ k_ => XS.iload X39.here hx rfl (hb hby d4_30) rfl k_) ?_
  show own_G p.tables e below T39 (mkF m 32 #[.val (.ref a1), .val (.ref ar), .val (.int (0 : Int32)), .val (.int (2 : Int32)), .val (.int (0 : Int32)), .val (.int R0), .val (.int S0), .unset, .unset, .unset, .unset, .unset] [(.int (0 : Int32)), (.ref aD)]) _
  obtain ⟨cl40, Ar40, -, S40, M40, H40, -⟩ := id V_pending
  have hin40_32 : ¬ ((0 : Int32) < 0 ∨ cl40.slots.size ≤ ((0 : Int32)).toNatClampNeg) := inb_of S40 ⟨by decide, by decide⟩
  refine own_go (fun t_ k_ => X39.iaload hx (j := (0 : Int32)) (v := (.int D0)) (by rw [e39]; exact Ar40.1) (State.isArrayOf_alike hZ.alike Ar40.2.1) Ar40.2.2 hin40_32 (H40.at hin40_32 rfl) (g := (mkF m 32 #[.val (.ref a1), .val (.ref ar), .val (.int (0 : Int32)), .val (.int (2 : Int32)), .val (.int (0 : Int32)), .val (.int R0), .val (.int S0), .unset, .unset, .unset, .unset, .unset] [(.int (0 : Int32)), (.ref aD)])) rfl rfl (hb hby d4_32) _ k_) ?_
  show own_G p.tables e below T39 (mkF m 33 #[.val (.ref a1), .val (.ref ar), .val (.int (0 : Int32)), .val (.int (2 : Int32)), .val (.int (0 : Int32)), .val (.int R0), .val (.int S0), .unset, .unset, .unset, .unset, .unset] [(.int D0)]) _
  refine own_go (fun t_ k_ => XS.istore X39.here hx rfl (hb hby d4_33) rfl (l' := #[.val (.ref a1), .val (.ref ar), .val (.int (0 : Int32)), .val (.int (2 : Int32)), .val (.int (0 : Int32)), .val (.int R0), .val (.int S0), .val (.int D0), .unset, .unset, .unset, .unset]) rfl k_) ?_
  show own_G p.tables e below T39 (mkF m 35 #[.val (.ref a1), .val (.ref ar), .val (.int (0 : Int32)), .val (.int (2 : Int32)), .val (.int (0 : Int32)), .val (.int R0), .val (.int S0), .val (.int D0), .unset, .unset, .unset, .unset] []) _
  refine own_go (fun t_ k_ => XS.iloadN X39.here hx rfl (hb hby d4_35) rfl k_) ?_
  show own_G p.tables e below T39 (mkF m 36 #[.val (.ref a1), .val (.ref ar), .val (.int (0 : Int32)), .val (.int (2 : Int32)), .val (.int (0 : Int32)), .val (.int R0), .val (.int S0), .val (.int D0), .unset, .unset, .unset, .unset] [(.int (0 : Int32))]) _
  refine own_go (fun t_ k_ => XS.iloadN X39.here hx rfl (hb hby d4_36) rfl k_) ?_
  show own_G p.tables e below T39 (mkF m 37 #[.val (.ref a1), .val (.ref ar), .val (.int (0 : Int32)), .val (.int (2 : Int32)), .val (.int (0 : Int32)), .val (.int R0), .val (.int S0), .val (.int D0), .unset, .unset, .unset, .unset] [(.int (2 : Int32)), (.int (0 : Int32))]) _
  refine own_go (fun t_ k_ => XS.iadd X39.here hx rfl (hb hby d4_37) rfl k_) ?_
  show own_G p.tables e below T39 (mkF m 38 #[.val (.ref a1), .val (.ref ar), .val (.int (0 : Int32)), .val (.int (2 : Int32)), .val (.int (0 : Int32)), .val (.int R0), .val (.int S0), .val (.int D0), .unset, .unset, .unset, .unset] [(.int (2 : Int32))]) _
  refine own_go (fun t_ k_ => XS.istore X39.here hx rfl (hb hby d4_38) rfl (l' := #[.val (.ref a1), .val (.ref ar), .val (.int (0 : Int32)), .val (.int (2 : Int32)), .val (.int (0 : Int32)), .val (.int R0), .val (.int S0), .val (.int D0), .val (.int (2 : Int32)), .unset, .unset, .unset]) rfl k_) ?_
  show own_G p.tables e below T39 (mkF m 40 #[.val (.ref a1), .val (.ref ar), .val (.int (0 : Int32)), .val (.int (2 : Int32)), .val (.int (0 : Int32)), .val (.int R0), .val (.int S0), .val (.int D0), .val (.int (2 : Int32)), .unset, .unset, .unset] []) _
  refine own_go (fun t_ k_ => XS.iloadN X39.here hx rfl (hb hby d4_40) rfl k_) ?_
  show own_G p.tables e below T39 (mkF m 41 #[.val (.ref a1), .val (.ref ar), .val (.int (0 : Int32)), .val (.int (2 : Int32)), .val (.int (0 : Int32)), .val (.int R0), .val (.int S0), .val (.int D0), .val (.int (2 : Int32)), .unset, .unset, .unset] [(.int (0 : Int32))]) _
  refine own_go (fun t_ k_ => XS.istore X39.here hx rfl (hb hby d4_41) rfl (l' := #[.val (.ref a1), .val (.ref ar), .val (.int (0 : Int32)), .val (.int (2 : Int32)), .val (.int (0 : Int32)), .val (.int R0), .val (.int S0), .val (.int D0), .val (.int (2 : Int32)), .val (.int (0 : Int32)), .unset, .unset]) rfl k_) ?_
  show own_G p.tables e below T39 (mkF m 43 #[.val (.ref a1), .val (.ref ar), .val (.int (0 : Int32)), .val (.int (2 : Int32)), .val (.int (0 : Int32)), .val (.int R0), .val (.int S0), .val (.int D0), .val (.int (2 : Int32)), .val (.int (0 : Int32)), .unset, .unset] []) _
  exact turn0 _ _ _ _ _ _ _ X39 e39 N0 One.u One.u hst rfl
theorem ef_4n3d2 (m : MethodId) (a1 : Addr) (ar : Addr) : entryFrame m #[(.ref a1), (.ref ar), (.int (0 : Int32)), (.int (3 : Int32))] 12 = mkF m 0 #[.val (.ref a1), .val (.ref ar), .val (.int (0 : Int32)), .val (.int (3 : Int32)), .unset, .unset, .unset, .unset, .unset, .unset, .unset, .unset] [] := by first | (simp [entryFrame, mkF, argsToLocals, Value.category]; done) | rfl
def Q4n3d2 (Z : State) (a1 : Addr) (ar : Addr) (aR aS aD : Addr) (kR kS kD : ClassId) (R0 R1 S0 S1 D0 D1 : Int32) (ka : ClassId) (c0 c1 c2 : Int32) (aP : Addr) (clP : Cell) (h0 : Heap) (n0 : Nat) (v : Option Value) (h : Heap) (L : List Loc) : Prop := v = none ∧ Fr n0 L ∧ Keep h0 h [aR, aS, aD] ∧ Arv Z h aR kR .int (8 : Int32) [(.int R0), (.int (own_run [c0, c1, c2] (R1, S1, D1)).1), (.int (0 : Int32)), (.int (0 : Int32)), (.int (0 : Int32)), (.int (0 : Int32)), (.int (0 : Int32)), (.int (0 : Int32))] (.int (0 : Int32)) ∧ Arv Z h aS kS .boolean (8 : Int32) [(.int S0), (.int (own_run [c0, c1, c2] (R1, S1, D1)).2.1), (.int (0 : Int32)), (.int (0 : Int32)), (.int (0 : Int32)), (.int (0 : Int32)), (.int (0 : Int32)), (.int (0 : Int32))] (.int (0 : Int32)) ∧ Arv Z h aD kD .int (8 : Int32) [(.int D0), (.int (own_run [c0, c1, c2] (R1, S1, D1)).2.2), (.int (0 : Int32)), (.int (0 : Int32)), (.int (0 : Int32)), (.int (0 : Int32)), (.int (0 : Int32)), (.int (0 : Int32))] (.int (0 : Int32))
set_option maxRecDepth 65536 in
set_option maxHeartbeats 40000000 in
theorem rm4n3d2 (l : Launch) (Z : State) (a0 : Array Value) (hw : ∀ d ∈ tables_1, d.before a0 Z = true) (ws : List Jvm.Cond) (a1 : Addr) (ar : Addr) (aR aS aD : Addr) (kR kS kD : ClassId) (R0 R1 S0 S1 D0 D1 : Int32) (ka : ClassId) (c0 c1 c2 : Int32) (aP : Addr) (clP : Cell) (h0 : Heap) (n0 : Nat) (Z0 : n0 ≤ h0.size) (S_P : Sta Z h0 "com/example/einzug/einzug/rules/PermittedCharacters" "PERMITTED" "[Z" (.ref aP)) (Ar_P : Arr Z h0 aP clP .boolean) (sz_P : clP.slots.size = 256) (tab_P : ∀ k, k < 256 → clP.slots[k]? = some (.int (own_perm k))) (E1 : Exa Z h0 a1 "com/example/einzug/einzug/core/TextCharacters") (F_depth : Fld Z h0 a1 "com/example/einzug/einzug/core/TextCharacters" "depth" "I" (.int (2 : Int32))) (F_refused : Fld Z h0 a1 "com/example/einzug/einzug/core/TextCharacters" "refused" "[I" (.ref aR)) (F_started : Fld Z h0 a1 "com/example/einzug/einzug/core/TextCharacters" "started" "[Z" (.ref aS)) (F_pending : Fld Z h0 a1 "com/example/einzug/einzug/core/TextCharacters" "pending" "[I" (.ref aD)) (V_refused : Arv Z h0 aR kR .int (8 : Int32) [(.int R0), (.int R1), (.int (0 : Int32)), (.int (0 : Int32)), (.int (0 : Int32)), (.int (0 : Int32)), (.int (0 : Int32)), (.int (0 : Int32))] (.int (0 : Int32))) (V_started : Arv Z h0 aS kS .boolean (8 : Int32) [(.int S0), (.int S1), (.int (0 : Int32)), (.int (0 : Int32)), (.int (0 : Int32)), (.int (0 : Int32)), (.int (0 : Int32)), (.int (0 : Int32))] (.int (0 : Int32))) (V_pending : Arv Z h0 aD kD .int (8 : Int32) [(.int D0), (.int D1), (.int (0 : Int32)), (.int (0 : Int32)), (.int (0 : Int32)), (.int (0 : Int32)), (.int (0 : Int32)), (.int (0 : Int32))] (.int (0 : Int32))) (nRS : aR ≠ aS) (nRD : aR ≠ aD) (nSD : aS ≠ aD) (n1R : a1 ≠ aR) (n1S : a1 ≠ aS) (n1D : a1 ≠ aD) (geR : n0 ≤ aR) (geS : n0 ≤ aS) (geD : n0 ≤ aD) (V_ar : Arv Z h0 ar ka .char (3 : Int32) [(.int c0), (.int c1), (.int c2)] (.int (0 : Int32))) (hst : S1 = 0 ∨ S1 = 1) (hc_c0 : ¬ (255 : Int32) < c0) (hc_c1 : ¬ (255 : Int32) < c1) (hc_c2 : ¬ (255 : Int32) < c2) :
    MetFree l (⟨"com/example/einzug/einzug/core/TextCharacters", "characters", "([CII)V"⟩ : MethodName) (head1 (Jvm.Cond.code (⟨"com/example/einzug/einzug/core/TextCharacters", "characters", "([CII)V"⟩ : MethodName) prog_145_method_3_code 12 none :: ws) ({ frames := 3, cells := 0, slots := 0, locals := 42 } : Room)) (fun a U => a = #[(.ref a1), (.ref ar), (.int (0 : Int32)), (.int (3 : Int32))] ∧ Z.Warmed39 U.vm ∧ U.heap = h0) (fun _ _ _ _ _ => True) (fun _ U o U' => ∃ v L, o = .returned v ∧ Q4n3d2 Z a1 ar aR aS aD kR kS kD R0 R1 S0 S1 D0 D1 ka c0 c1 c2 aP clP h0 n0 v U'.heap L ∧ FrameEnd U o U' L ({ frames := 3, cells := 0, slots := 0, locals := 42 } : Room).cells ({ frames := 3, cells := 0, slots := 0, locals := 42 } : Room).slots) := by
  refine MetFree.of_bodySF (plainFor_of_name own_pn4) hisR ?_
  intro p e s m args below meth c s₁ Bd hml0 hP hK
  obtain ⟨rfl, hZ, hh⟩ := hP
  have hx := Bd.exec
  have hby := Bd.bytes
  have hml : c.maxLocals = 12 := hml0
  have hown : s.vm.findClass "com/example/einzug/einzug/core/TextCharacters" = some m.cls := findClass_of_methodNamed Bd.named
  have hnm := (name_of_methodNamed Bd.named Bd.method).1
  have X0 : Stand p l e ({ frames := 3, cells := 0, slots := 0, locals := 42 } : Room) s m #[(.ref a1), (.ref ar), (.int (0 : Int32)), (.int (3 : Int32))] below meth c s₁ [] 0 0 := Stand.of_body Bd
  have e0 : s₁.heap = h0 := by rw [← hh, Bd.state]; rfl
  have N0 := Fr.nil n0
  refine own_top (Q := Q4n3d2 Z a1 ar aR aS aD kR kS kD R0 R1 S0 S1 D0 D1 ka c0 c1 c2 aP clP h0 n0) (ef_4n3d2 m a1 ar) ?_
  obtain ⟨clA, ArA, -, SzA, MzA, HA, -⟩ := V_ar
  have hinA0 : ¬ ((0 : Int32) < 0 ∨ clA.slots.size ≤ (0 : Int32).toNatClampNeg) := inb_of SzA ⟨by decide, by decide⟩
  have hatA0 : clA.slots[(0 : Int32).toNatClampNeg]? = some (.int c0) := HA.at hinA0 rfl
  have hinA1 : ¬ ((1 : Int32) < 0 ∨ clA.slots.size ≤ (1 : Int32).toNatClampNeg) := inb_of SzA ⟨by decide, by decide⟩
  have hatA1 : clA.slots[(1 : Int32).toNatClampNeg]? = some (.int c1) := HA.at hinA1 rfl
  have hinA2 : ¬ ((2 : Int32) < 0 ∨ clA.slots.size ≤ (2 : Int32).toNatClampNeg) := inb_of SzA ⟨by decide, by decide⟩
  have hatA2 : clA.slots[(2 : Int32).toNatClampNeg]? = some (.int c2) := HA.at hinA2 rfl
  have exit : ∀ (i9 : Int32), ∀ (r st' pd : Int32) (s10 s11 : Slot) (Tt : State) (locs : List Loc), Stand p l e ({ frames := 3, cells := 0, slots := 0, locals := 42 } : Room) s m #[(.ref a1), (.ref ar), (.int (0 : Int32)), (.int (3 : Int32))] below meth c Tt locs 0 0 → Tt.heap = h0 → Fr n0 locs → One s10 → One s11 → (st' = 0 ∨ st' = 1) → (own_run [c0, c1, c2] (R1, S1, D1)) = (r, st', pd) → own_G p.tables e below Tt (mkF m 151 #[.val (.ref a1), .val (.ref ar), .val (.int (0 : Int32)), .val (.int (3 : Int32)), .val (.int (1 : Int32)), .val (.int r), .val (.int st'), .val (.int pd), .val (.int (3 : Int32)), .val (.int i9), s10, s11] []) (own_P below s (Q4n3d2 Z a1 ar aR aS aD kR kS kD R0 R1 S0 S1 D0 D1 ka c0 c1 c2 aP clP h0 n0) (({ frames := 3, cells := 0, slots := 0, locals := 42 } : Room)).cells (({ frames := 3, cells := 0, slots := 0, locals := 42 } : Room)).slots) := by
    intro i9
    intro r st' pd s10 s11 Tt locs Xt et Nt h10 h11 hs hrun
    show own_G p.tables e below Tt (mkF m 151 #[.val (.ref a1), .val (.ref ar), .val (.int (0 : Int32)), .val (.int (3 : Int32)), .val (.int (1 : Int32)), .val (.int r), .val (.int st'), .val (.int pd), .val (.int (3 : Int32)), .val (.int i9), s10, s11] []) _
    refine own_go (fun t_ k_ => XS.aloadN Xt.here hx rfl (hb hby d4_151) rfl rfl k_) ?_
    show own_G p.tables e below Tt (mkF m 152 #[.val (.ref a1), .val (.ref ar), .val (.int (0 : Int32)), .val (.int (3 : Int32)), .val (.int (1 : Int32)), .val (.int r), .val (.int st'), .val (.int pd), .val (.int (3 : Int32)), .val (.int i9), s10, s11] [(.ref a1)]) _
    obtain ⟨T1, X1, e1, st1⟩ := getF Xt hx hZ hown (host := "") (Or.inl (hw _ (List.mem_of_getElem? (i := 11) rfl))) Via.refl et F_refused (g := (mkF m 152 #[.val (.ref a1), .val (.ref ar), .val (.int (0 : Int32)), .val (.int (3 : Int32)), .val (.int (1 : Int32)), .val (.int r), .val (.int st'), .val (.int pd), .val (.int (3 : Int32)), .val (.int i9), s10, s11] [(.ref a1)])) rfl rfl (hb hby d4_152)
    refine own_go st1 ?_
    show own_G p.tables e below T1 (mkF m 155 #[.val (.ref a1), .val (.ref ar), .val (.int (0 : Int32)), .val (.int (3 : Int32)), .val (.int (1 : Int32)), .val (.int r), .val (.int st'), .val (.int pd), .val (.int (3 : Int32)), .val (.int i9), s10, s11] [(.ref aR)]) _
    refine own_go (fun t_ k_ => XS.iload X1.here hx rfl (hb hby d4_155) rfl k_) ?_
    show own_G p.tables e below T1 (mkF m 157 #[.val (.ref a1), .val (.ref ar), .val (.int (0 : Int32)), .val (.int (3 : Int32)), .val (.int (1 : Int32)), .val (.int r), .val (.int st'), .val (.int pd), .val (.int (3 : Int32)), .val (.int i9), s10, s11] [(.int (1 : Int32)), (.ref aR)]) _
    refine own_go (fun t_ k_ => XS.iload X1.here hx rfl (hb hby d4_157) rfl k_) ?_
    show own_G p.tables e below T1 (mkF m 159 #[.val (.ref a1), .val (.ref ar), .val (.int (0 : Int32)), .val (.int (3 : Int32)), .val (.int (1 : Int32)), .val (.int r), .val (.int st'), .val (.int pd), .val (.int (3 : Int32)), .val (.int i9), s10, s11] [(.int r), (.int (1 : Int32)), (.ref aR)]) _
    obtain ⟨cl2, Ar2, q2, S2, M2, H2, G2⟩ := id V_refused
    have hin2 : ¬ ((1 : Int32) < 0 ∨ cl2.slots.size ≤ ((1 : Int32)).toNatClampNeg) := inb_of S2 ⟨by decide, by decide⟩
    obtain ⟨T2, h2, X2, e2, W2, st2⟩ := stI X1 hx hZ e1 Ar2 (j := (1 : Int32)) hin2 (g := (mkF m 159 #[.val (.ref a1), .val (.ref ar), .val (.int (0 : Int32)), .val (.int (3 : Int32)), .val (.int (1 : Int32)), .val (.int r), .val (.int st'), .val (.int pd), .val (.int (3 : Int32)), .val (.int i9), s10, s11] [(.int r), (.int (1 : Int32)), (.ref aR)])) rfl rfl (hb hby d4_159)
    have N2 := Fr.snoc X2 Nt geR
    have V2 : Arv Z h2 aR kR .int (8 : Int32) [(.int R0), (.int r), (.int (0 : Int32)), (.int (0 : Int32)), (.int (0 : Int32)), (.int (0 : Int32)), (.int (0 : Int32)), (.int (0 : Int32))] (.int (0 : Int32)) := by
      have q := Arv.set Ar2 q2 S2 M2 H2 G2 rfl W2 1 rfl (Nat.le_of_ble_eq_true rfl)
      exact q
    refine own_go st2 ?_
    show own_G p.tables e below T2 (mkF m 160 #[.val (.ref a1), .val (.ref ar), .val (.int (0 : Int32)), .val (.int (3 : Int32)), .val (.int (1 : Int32)), .val (.int r), .val (.int st'), .val (.int pd), .val (.int (3 : Int32)), .val (.int i9), s10, s11] []) _
    refine own_go (fun t_ k_ => XS.aloadN X2.here hx rfl (hb hby d4_160) rfl rfl k_) ?_
    show own_G p.tables e below T2 (mkF m 161 #[.val (.ref a1), .val (.ref ar), .val (.int (0 : Int32)), .val (.int (3 : Int32)), .val (.int (1 : Int32)), .val (.int r), .val (.int st'), .val (.int pd), .val (.int (3 : Int32)), .val (.int i9), s10, s11] [(.ref a1)]) _
    have f3 : Fld Z h2 a1 "com/example/einzug/einzug/core/TextCharacters" "started" "[Z" (.ref aS) := (F_started.other W2 (Or.inl n1R))
    obtain ⟨T4, X4, e4, st4⟩ := getF X2 hx hZ hown (host := "") (Or.inl (hw _ (List.mem_of_getElem? (i := 14) rfl))) Via.refl e2 f3 (g := (mkF m 161 #[.val (.ref a1), .val (.ref ar), .val (.int (0 : Int32)), .val (.int (3 : Int32)), .val (.int (1 : Int32)), .val (.int r), .val (.int st'), .val (.int pd), .val (.int (3 : Int32)), .val (.int i9), s10, s11] [(.ref a1)])) rfl rfl (hb hby d4_161)
    refine own_go st4 ?_
    show own_G p.tables e below T4 (mkF m 164 #[.val (.ref a1), .val (.ref ar), .val (.int (0 : Int32)), .val (.int (3 : Int32)), .val (.int (1 : Int32)), .val (.int r), .val (.int st'), .val (.int pd), .val (.int (3 : Int32)), .val (.int i9), s10, s11] [(.ref aS)]) _
    refine own_go (fun t_ k_ => XS.iload X4.here hx rfl (hb hby d4_164) rfl k_) ?_
    show own_G p.tables e below T4 (mkF m 166 #[.val (.ref a1), .val (.ref ar), .val (.int (0 : Int32)), .val (.int (3 : Int32)), .val (.int (1 : Int32)), .val (.int r), .val (.int st'), .val (.int pd), .val (.int (3 : Int32)), .val (.int i9), s10, s11] [(.int (1 : Int32)), (.ref aS)]) _
    refine own_go (fun t_ k_ => XS.iload X4.here hx rfl (hb hby d4_166) rfl k_) ?_
    show own_G p.tables e below T4 (mkF m 168 #[.val (.ref a1), .val (.ref ar), .val (.int (0 : Int32)), .val (.int (3 : Int32)), .val (.int (1 : Int32)), .val (.int r), .val (.int st'), .val (.int pd), .val (.int (3 : Int32)), .val (.int i9), s10, s11] [(.int st'), (.int (1 : Int32)), (.ref aS)]) _
    have f5 : Arv Z h2 aS kS .boolean (8 : Int32) [(.int S0), (.int S1), (.int (0 : Int32)), (.int (0 : Int32)), (.int (0 : Int32)), (.int (0 : Int32)), (.int (0 : Int32)), (.int (0 : Int32))] (.int (0 : Int32)) := (V_started.other W2 (Ne.symm nRS))
    obtain ⟨cl6, Ar6, q6, S6, M6, H6, G6⟩ := id f5
    have hin6 : ¬ ((1 : Int32) < 0 ∨ cl6.slots.size ≤ ((1 : Int32)).toNatClampNeg) := inb_of S6 ⟨by decide, by decide⟩
    obtain ⟨T6, h6, X6, e6, W6, st6⟩ := stZ X4 hx hZ e4 Ar6 (j := (1 : Int32)) hin6 (g := (mkF m 168 #[.val (.ref a1), .val (.ref ar), .val (.int (0 : Int32)), .val (.int (3 : Int32)), .val (.int (1 : Int32)), .val (.int r), .val (.int st'), .val (.int pd), .val (.int (3 : Int32)), .val (.int i9), s10, s11] [(.int st'), (.int (1 : Int32)), (.ref aS)])) rfl rfl (hb hby d4_168)
    have N6 := Fr.snoc X6 N2 geS
    have V6 : Arv Z h6 aS kS .boolean (8 : Int32) [(.int S0), (.int st'), (.int (0 : Int32)), (.int (0 : Int32)), (.int (0 : Int32)), (.int (0 : Int32)), (.int (0 : Int32)), (.int (0 : Int32))] (.int (0 : Int32)) := by
      have q := Arv.set Ar6 q6 S6 M6 H6 G6 (fits_nar_bool _) W6 1 rfl (Nat.le_of_ble_eq_true rfl)
      rw [own_narb hs] at q
      exact q
    refine own_go st6 ?_
    show own_G p.tables e below T6 (mkF m 169 #[.val (.ref a1), .val (.ref ar), .val (.int (0 : Int32)), .val (.int (3 : Int32)), .val (.int (1 : Int32)), .val (.int r), .val (.int st'), .val (.int pd), .val (.int (3 : Int32)), .val (.int i9), s10, s11] []) _
    refine own_go (fun t_ k_ => XS.aloadN X6.here hx rfl (hb hby d4_169) rfl rfl k_) ?_
    show own_G p.tables e below T6 (mkF m 170 #[.val (.ref a1), .val (.ref ar), .val (.int (0 : Int32)), .val (.int (3 : Int32)), .val (.int (1 : Int32)), .val (.int r), .val (.int st'), .val (.int pd), .val (.int (3 : Int32)), .val (.int i9), s10, s11] [(.ref a1)]) _
    have f7 : Fld Z h6 a1 "com/example/einzug/einzug/core/TextCharacters" "pending" "[I" (.ref aD) := ((F_pending.other W2 (Or.inl n1R)).other W6 (Or.inl n1S))
    obtain ⟨T8, X8, e8, st8⟩ := getF X6 hx hZ hown (host := "") (Or.inl (hw _ (List.mem_of_getElem? (i := 16) rfl))) Via.refl e6 f7 (g := (mkF m 170 #[.val (.ref a1), .val (.ref ar), .val (.int (0 : Int32)), .val (.int (3 : Int32)), .val (.int (1 : Int32)), .val (.int r), .val (.int st'), .val (.int pd), .val (.int (3 : Int32)), .val (.int i9), s10, s11] [(.ref a1)])) rfl rfl (hb hby d4_170)
    refine own_go st8 ?_
    show own_G p.tables e below T8 (mkF m 173 #[.val (.ref a1), .val (.ref ar), .val (.int (0 : Int32)), .val (.int (3 : Int32)), .val (.int (1 : Int32)), .val (.int r), .val (.int st'), .val (.int pd), .val (.int (3 : Int32)), .val (.int i9), s10, s11] [(.ref aD)]) _
    refine own_go (fun t_ k_ => XS.iload X8.here hx rfl (hb hby d4_173) rfl k_) ?_
    show own_G p.tables e below T8 (mkF m 175 #[.val (.ref a1), .val (.ref ar), .val (.int (0 : Int32)), .val (.int (3 : Int32)), .val (.int (1 : Int32)), .val (.int r), .val (.int st'), .val (.int pd), .val (.int (3 : Int32)), .val (.int i9), s10, s11] [(.int (1 : Int32)), (.ref aD)]) _
    refine own_go (fun t_ k_ => XS.iload X8.here hx rfl (hb hby d4_175) rfl k_) ?_
    show own_G p.tables e below T8 (mkF m 177 #[.val (.ref a1), .val (.ref ar), .val (.int (0 : Int32)), .val (.int (3 : Int32)), .val (.int (1 : Int32)), .val (.int r), .val (.int st'), .val (.int pd), .val (.int (3 : Int32)), .val (.int i9), s10, s11] [(.int pd), (.int (1 : Int32)), (.ref aD)]) _
    have f9 : Arv Z h6 aD kD .int (8 : Int32) [(.int D0), (.int D1), (.int (0 : Int32)), (.int (0 : Int32)), (.int (0 : Int32)), (.int (0 : Int32)), (.int (0 : Int32)), (.int (0 : Int32))] (.int (0 : Int32)) := ((V_pending.other W2 (Ne.symm nRD)).other W6 (Ne.symm nSD))
    obtain ⟨cl10, Ar10, q10, S10, M10, H10, G10⟩ := id f9
    have hin10 : ¬ ((1 : Int32) < 0 ∨ cl10.slots.size ≤ ((1 : Int32)).toNatClampNeg) := inb_of S10 ⟨by decide, by decide⟩
    obtain ⟨T10, h10, X10, e10, W10, st10⟩ := stI X8 hx hZ e8 Ar10 (j := (1 : Int32)) hin10 (g := (mkF m 177 #[.val (.ref a1), .val (.ref ar), .val (.int (0 : Int32)), .val (.int (3 : Int32)), .val (.int (1 : Int32)), .val (.int r), .val (.int st'), .val (.int pd), .val (.int (3 : Int32)), .val (.int i9), s10, s11] [(.int pd), (.int (1 : Int32)), (.ref aD)])) rfl rfl (hb hby d4_177)
    have N10 := Fr.snoc X10 N6 geD
    have V10 : Arv Z h10 aD kD .int (8 : Int32) [(.int D0), (.int pd), (.int (0 : Int32)), (.int (0 : Int32)), (.int (0 : Int32)), (.int (0 : Int32)), (.int (0 : Int32)), (.int (0 : Int32))] (.int (0 : Int32)) := by
      have q := Arv.set Ar10 q10 S10 M10 H10 G10 rfl W10 1 rfl (Nat.le_of_ble_eq_true rfl)
      exact q
    refine own_go st10 ?_
    show own_G p.tables e below T10 (mkF m 178 #[.val (.ref a1), .val (.ref ar), .val (.int (0 : Int32)), .val (.int (3 : Int32)), .val (.int (1 : Int32)), .val (.int r), .val (.int st'), .val (.int pd), .val (.int (3 : Int32)), .val (.int i9), s10, s11] []) _
    have f11 : Keep h0 h10 [aR, aS, aD] := ((((Keep.refl h0 [aR, aS, aD]).wr W2 (Or.inl (List.mem_of_getElem? (i := 0) rfl))).wr W6 (Or.inl (List.mem_of_getElem? (i := 1) rfl))).wr W10 (Or.inl (List.mem_of_getElem? (i := 2) rfl)))
    have f12 : Arv Z h10 aR kR .int (8 : Int32) [(.int R0), (.int r), (.int (0 : Int32)), (.int (0 : Int32)), (.int (0 : Int32)), (.int (0 : Int32)), (.int (0 : Int32)), (.int (0 : Int32))] (.int (0 : Int32)) := ((V2.other W6 nRS).other W10 nRD)
    have f13 : Arv Z h10 aS kS .boolean (8 : Int32) [(.int S0), (.int st'), (.int (0 : Int32)), (.int (0 : Int32)), (.int (0 : Int32)), (.int (0 : Int32)), (.int (0 : Int32)), (.int (0 : Int32))] (.int (0 : Int32)) := (V6.other W10 nSD)
    exact own_end (v := none) X10 Bd.notSynchronized (fun _ => rfl) (fun fs hr => X10.returnOut hx Bd.returns (hb hby d4_178) hr) e10 ⟨rfl, N10, f11, (by rw [hrun]; exact f12), (by rw [hrun]; exact f13), (by rw [hrun]; exact V10)⟩ (by decide) (by decide)
  have turn3 : ∀ (r st' pd : Int32) (s10 s11 : Slot) (Tt : State) (locs : List Loc), Stand p l e ({ frames := 3, cells := 0, slots := 0, locals := 42 } : Room) s m #[(.ref a1), (.ref ar), (.int (0 : Int32)), (.int (3 : Int32))] below meth c Tt locs 0 0 → Tt.heap = h0 → Fr n0 locs → One s10 → One s11 → (st' = 0 ∨ st' = 1) → (own_run [c0, c1, c2] (R1, S1, D1)) = own_run [] (r, st', pd) → own_G p.tables e below Tt (mkF m 43 #[.val (.ref a1), .val (.ref ar), .val (.int (0 : Int32)), .val (.int (3 : Int32)), .val (.int (1 : Int32)), .val (.int r), .val (.int st'), .val (.int pd), .val (.int (3 : Int32)), .val (.int (3 : Int32)), s10, s11] []) (own_P below s (Q4n3d2 Z a1 ar aR aS aD kR kS kD R0 R1 S0 S1 D0 D1 ka c0 c1 c2 aP clP h0 n0) (({ frames := 3, cells := 0, slots := 0, locals := 42 } : Room)).cells (({ frames := 3, cells := 0, slots := 0, locals := 42 } : Room)).slots) := by
    intro r st' pd s10 s11 Tt locs Xt et Nt h10 h11 hs hrun
    show own_G p.tables e below Tt (mkF m 43 #[.val (.ref a1), .val (.ref ar), .val (.int (0 : Int32)), .val (.int (3 : Int32)), .val (.int (1 : Int32)), .val (.int r), .val (.int st'), .val (.int pd), .val (.int (3 : Int32)), .val (.int (3 : Int32)), s10, s11] []) _
    refine own_go (fun t_ k_ => XS.iload Xt.here hx rfl (hb hby d4_43) rfl k_) ?_
    show own_G p.tables e below Tt (mkF m 45 #[.val (.ref a1), .val (.ref ar), .val (.int (0 : Int32)), .val (.int (3 : Int32)), .val (.int (1 : Int32)), .val (.int r), .val (.int st'), .val (.int pd), .val (.int (3 : Int32)), .val (.int (3 : Int32)), s10, s11] [(.int (3 : Int32))]) _
    refine own_go (fun t_ k_ => XS.iload Xt.here hx rfl (hb hby d4_45) rfl k_) ?_
    show own_G p.tables e below Tt (mkF m 47 #[.val (.ref a1), .val (.ref ar), .val (.int (0 : Int32)), .val (.int (3 : Int32)), .val (.int (1 : Int32)), .val (.int r), .val (.int st'), .val (.int pd), .val (.int (3 : Int32)), .val (.int (3 : Int32)), s10, s11] [(.int (3 : Int32)), (.int (3 : Int32))]) _
    refine own_go (fun t_ k_ => XS.icmpYes Xt.here hx rfl (pc0 := 47) (pc' := 151) rfl (hb hby d4_47) rfl (flt (by decide : ¬ ((3 : Int32) < (3 : Int32)))).2.1 (by decide) (by decide) k_) ?_
    show own_G p.tables e below Tt (mkF m 151 #[.val (.ref a1), .val (.ref ar), .val (.int (0 : Int32)), .val (.int (3 : Int32)), .val (.int (1 : Int32)), .val (.int r), .val (.int st'), .val (.int pd), .val (.int (3 : Int32)), .val (.int (3 : Int32)), s10, s11] []) _
    exact exit _ _ _ _ _ _ _ _ Xt et Nt h10 h11 hs hrun
  have turn2 : ∀ (r st' pd : Int32) (s10 s11 : Slot) (Tt : State) (locs : List Loc), Stand p l e ({ frames := 3, cells := 0, slots := 0, locals := 42 } : Room) s m #[(.ref a1), (.ref ar), (.int (0 : Int32)), (.int (3 : Int32))] below meth c Tt locs 0 0 → Tt.heap = h0 → Fr n0 locs → One s10 → One s11 → (st' = 0 ∨ st' = 1) → (own_run [c0, c1, c2] (R1, S1, D1)) = own_run [c2] (r, st', pd) → own_G p.tables e below Tt (mkF m 43 #[.val (.ref a1), .val (.ref ar), .val (.int (0 : Int32)), .val (.int (3 : Int32)), .val (.int (1 : Int32)), .val (.int r), .val (.int st'), .val (.int pd), .val (.int (3 : Int32)), .val (.int (2 : Int32)), s10, s11] []) (own_P below s (Q4n3d2 Z a1 ar aR aS aD kR kS kD R0 R1 S0 S1 D0 D1 ka c0 c1 c2 aP clP h0 n0) (({ frames := 3, cells := 0, slots := 0, locals := 42 } : Room)).cells (({ frames := 3, cells := 0, slots := 0, locals := 42 } : Room)).slots) := by
    intro r st' pd s10 s11 Tt locs Xt et Nt h10 h11 hs hrun
    by_cases hr1 : r = -1
    · subst hr1
      rw [own_run_in] at hrun
      show own_G p.tables e below Tt (mkF m 43 #[.val (.ref a1), .val (.ref ar), .val (.int (0 : Int32)), .val (.int (3 : Int32)), .val (.int (1 : Int32)), .val (.int (-1 : Int32)), .val (.int st'), .val (.int pd), .val (.int (3 : Int32)), .val (.int (2 : Int32)), s10, s11] []) _
      refine own_go (fun t_ k_ => XS.iload Xt.here hx rfl (hb hby d4_43) rfl k_) ?_
      show own_G p.tables e below Tt (mkF m 45 #[.val (.ref a1), .val (.ref ar), .val (.int (0 : Int32)), .val (.int (3 : Int32)), .val (.int (1 : Int32)), .val (.int (-1 : Int32)), .val (.int st'), .val (.int pd), .val (.int (3 : Int32)), .val (.int (2 : Int32)), s10, s11] [(.int (2 : Int32))]) _
      refine own_go (fun t_ k_ => XS.iload Xt.here hx rfl (hb hby d4_45) rfl k_) ?_
      show own_G p.tables e below Tt (mkF m 47 #[.val (.ref a1), .val (.ref ar), .val (.int (0 : Int32)), .val (.int (3 : Int32)), .val (.int (1 : Int32)), .val (.int (-1 : Int32)), .val (.int st'), .val (.int pd), .val (.int (3 : Int32)), .val (.int (2 : Int32)), s10, s11] [(.int (3 : Int32)), (.int (2 : Int32))]) _
      refine own_go (fun t_ k_ => XS.icmpNo Xt.here hx rfl (hb hby d4_47) rfl (tlt (by decide : ((2 : Int32) < (3 : Int32)))).2.1 k_) ?_
      show own_G p.tables e below Tt (mkF m 50 #[.val (.ref a1), .val (.ref ar), .val (.int (0 : Int32)), .val (.int (3 : Int32)), .val (.int (1 : Int32)), .val (.int (-1 : Int32)), .val (.int st'), .val (.int pd), .val (.int (3 : Int32)), .val (.int (2 : Int32)), s10, s11] []) _
      refine own_go (fun t_ k_ => XS.iload Xt.here hx rfl (hb hby d4_50) rfl k_) ?_
      show own_G p.tables e below Tt (mkF m 52 #[.val (.ref a1), .val (.ref ar), .val (.int (0 : Int32)), .val (.int (3 : Int32)), .val (.int (1 : Int32)), .val (.int (-1 : Int32)), .val (.int st'), .val (.int pd), .val (.int (3 : Int32)), .val (.int (2 : Int32)), s10, s11] [(.int (-1 : Int32))]) _
      refine own_go (fun t_ k_ => XS.iconst Xt.here hx rfl (hb hby d4_52) k_) ?_
      show own_G p.tables e below Tt (mkF m 53 #[.val (.ref a1), .val (.ref ar), .val (.int (0 : Int32)), .val (.int (3 : Int32)), .val (.int (1 : Int32)), .val (.int (-1 : Int32)), .val (.int st'), .val (.int pd), .val (.int (3 : Int32)), .val (.int (2 : Int32)), s10, s11] [(.int (-1 : Int32)), (.int (-1 : Int32))]) _
      refine own_go (fun t_ k_ => XS.icmpNo Xt.here hx rfl (hb hby d4_53) rfl (teq (by decide : ((-1 : Int32) = (-1 : Int32)))).2 k_) ?_
      show own_G p.tables e below Tt (mkF m 56 #[.val (.ref a1), .val (.ref ar), .val (.int (0 : Int32)), .val (.int (3 : Int32)), .val (.int (1 : Int32)), .val (.int (-1 : Int32)), .val (.int st'), .val (.int pd), .val (.int (3 : Int32)), .val (.int (2 : Int32)), s10, s11] []) _
      refine own_go (fun t_ k_ => XS.aloadN Xt.here hx rfl (hb hby d4_56) rfl rfl k_) ?_
      show own_G p.tables e below Tt (mkF m 57 #[.val (.ref a1), .val (.ref ar), .val (.int (0 : Int32)), .val (.int (3 : Int32)), .val (.int (1 : Int32)), .val (.int (-1 : Int32)), .val (.int st'), .val (.int pd), .val (.int (3 : Int32)), .val (.int (2 : Int32)), s10, s11] [(.ref ar)]) _
      refine own_go (fun t_ k_ => XS.iload Xt.here hx rfl (hb hby d4_57) rfl k_) ?_
      show own_G p.tables e below Tt (mkF m 59 #[.val (.ref a1), .val (.ref ar), .val (.int (0 : Int32)), .val (.int (3 : Int32)), .val (.int (1 : Int32)), .val (.int (-1 : Int32)), .val (.int st'), .val (.int pd), .val (.int (3 : Int32)), .val (.int (2 : Int32)), s10, s11] [(.int (2 : Int32)), (.ref ar)]) _
      refine own_go (fun t_ k_ => Xt.caload hx (j := (2 : Int32)) (v := (.int c2)) (by rw [et]; exact ArA.1) (State.isArrayOf_alike hZ.alike ArA.2.1) ArA.2.2 hinA2 hatA2 (g := (mkF m 59 #[.val (.ref a1), .val (.ref ar), .val (.int (0 : Int32)), .val (.int (3 : Int32)), .val (.int (1 : Int32)), .val (.int (-1 : Int32)), .val (.int st'), .val (.int pd), .val (.int (3 : Int32)), .val (.int (2 : Int32)), s10, s11] [(.int (2 : Int32)), (.ref ar)])) rfl rfl (hb hby d4_59) _ k_) ?_
      show own_G p.tables e below Tt (mkF m 60 #[.val (.ref a1), .val (.ref ar), .val (.int (0 : Int32)), .val (.int (3 : Int32)), .val (.int (1 : Int32)), .val (.int (-1 : Int32)), .val (.int st'), .val (.int pd), .val (.int (3 : Int32)), .val (.int (2 : Int32)), s10, s11] [(.int c2)]) _
      refine own_go (fun t_ k_ => XS.istoreS Xt.here hx rfl (hb hby d4_60) rfl rfl h10 k_) ?_
      show own_G p.tables e below Tt (mkF m 62 #[.val (.ref a1), .val (.ref ar), .val (.int (0 : Int32)), .val (.int (3 : Int32)), .val (.int (1 : Int32)), .val (.int (-1 : Int32)), .val (.int st'), .val (.int pd), .val (.int (3 : Int32)), .val (.int (2 : Int32)), .val (.int c2), s11] []) _
      refine own_go (fun t_ k_ => XS.iload Xt.here hx rfl (hb hby d4_62) rfl k_) ?_
      show own_G p.tables e below Tt (mkF m 64 #[.val (.ref a1), .val (.ref ar), .val (.int (0 : Int32)), .val (.int (3 : Int32)), .val (.int (1 : Int32)), .val (.int (-1 : Int32)), .val (.int st'), .val (.int pd), .val (.int (3 : Int32)), .val (.int (2 : Int32)), .val (.int c2), s11] [(.int c2)]) _
      obtain ⟨_, _, ⟨T14, L14, k14, n14⟩, -, X14, ⟨Lc14, hQ14, l14, y14, z14⟩, st14⟩ := Jvm.LawKit.callS Xt hx (y := (⟨"com/example/einzug/einzug/rules/XmlCharacters", "isSpace", "(I)Z"⟩ : MethodName)) hown (mvT hZ (hw _ (List.mem_of_getElem? (i := 30) rfl))) (mvT hZ (hw _ (List.mem_of_getElem? (i := 31) rfl))) (mvT hZ (hw _ (List.mem_of_getElem? (i := 32) rfl))) (mvT hZ (hw _ (List.mem_of_getElem? (i := 33) rfl))) (by decide) (backOf (W := 0) (rm5 l Z a0 hw [] c2 h0 n0 Z0) hZ (hw _ (List.mem_of_getElem? (i := 33) rfl)) (hw _ (List.mem_of_getElem? (i := 32) rfl)) (by decide) (by decide)) (g := (mkF m 64 #[.val (.ref a1), .val (.ref ar), .val (.int (0 : Int32)), .val (.int (3 : Int32)), .val (.int (1 : Int32)), .val (.int (-1 : Int32)), .val (.int st'), .val (.int pd), .val (.int (3 : Int32)), .val (.int (2 : Int32)), .val (.int c2), s11] [(.int c2)])) rfl (by rw [hml]; rfl) (argsL := [(.int c2)]) (rest := []) (lenOf own_pd2 rfl) rfl (by show 2 * 0 + _ ≤ _; exact Nat.le_of_eq rfl) (hb hby d4_64) (fun _ _ => ⟨rfl, et, (by decide : 0 + 0 ≤ _), (by decide : 0 + 0 ≤ _)⟩)
      dsimp only [Pt.U, Pt.locs, Pt.cells, Pt.slots] at X14 l14 y14 z14 st14 hQ14
      subst l14 y14 z14
      obtain ⟨rfl, N14q, e14⟩ := hQ14
      have N14 := Fr.app Nt N14q
      refine own_go st14 ?_
      show own_G p.tables e below T14 (mkF m 67 #[.val (.ref a1), .val (.ref ar), .val (.int (0 : Int32)), .val (.int (3 : Int32)), .val (.int (1 : Int32)), .val (.int (-1 : Int32)), .val (.int st'), .val (.int pd), .val (.int (3 : Int32)), .val (.int (2 : Int32)), .val (.int c2), s11] [(.int (own_sp c2))]) _
      by_cases hc67_15 : (own_sp c2) = (0 : Int32)
      · skip
        refine own_go (fun t_ k_ => XS.ifYes X14.here hx rfl (pc0 := 67) (pc' := 95) rfl (hb hby d4_67) rfl ((if0 _ _).trans (teq hc67_15).1) (by decide) (by decide) k_) ?_
        show own_G p.tables e below T14 (mkF m 95 #[.val (.ref a1), .val (.ref ar), .val (.int (0 : Int32)), .val (.int (3 : Int32)), .val (.int (1 : Int32)), .val (.int (-1 : Int32)), .val (.int st'), .val (.int pd), .val (.int (3 : Int32)), .val (.int (2 : Int32)), .val (.int c2), s11] []) _
        refine own_go (fun t_ k_ => XS.iload X14.here hx rfl (hb hby d4_95) rfl k_) ?_
        show own_G p.tables e below T14 (mkF m 97 #[.val (.ref a1), .val (.ref ar), .val (.int (0 : Int32)), .val (.int (3 : Int32)), .val (.int (1 : Int32)), .val (.int (-1 : Int32)), .val (.int st'), .val (.int pd), .val (.int (3 : Int32)), .val (.int (2 : Int32)), .val (.int c2), s11] [(.int pd)]) _
        refine own_go (fun t_ k_ => XS.iconst X14.here hx rfl (hb hby d4_97) k_) ?_
        show own_G p.tables e below T14 (mkF m 98 #[.val (.ref a1), .val (.ref ar), .val (.int (0 : Int32)), .val (.int (3 : Int32)), .val (.int (1 : Int32)), .val (.int (-1 : Int32)), .val (.int st'), .val (.int pd), .val (.int (3 : Int32)), .val (.int (2 : Int32)), .val (.int c2), s11] [(.int (-1 : Int32)), (.int pd)]) _
        by_cases hc98_16 : pd = (-1 : Int32)
        · skip
          refine own_go (fun t_ k_ => XS.icmpYes X14.here hx rfl (pc0 := 98) (pc' := 108) rfl (hb hby d4_98) rfl (teq hc98_16).1 (by decide) (by decide) k_) ?_
          show own_G p.tables e below T14 (mkF m 108 #[.val (.ref a1), .val (.ref ar), .val (.int (0 : Int32)), .val (.int (3 : Int32)), .val (.int (1 : Int32)), .val (.int (-1 : Int32)), .val (.int st'), .val (.int pd), .val (.int (3 : Int32)), .val (.int (2 : Int32)), .val (.int c2), s11] []) _
          refine own_go (fun t_ k_ => XS.iconst X14.here hx rfl (hb hby d4_108) k_) ?_
          show own_G p.tables e below T14 (mkF m 109 #[.val (.ref a1), .val (.ref ar), .val (.int (0 : Int32)), .val (.int (3 : Int32)), .val (.int (1 : Int32)), .val (.int (-1 : Int32)), .val (.int st'), .val (.int pd), .val (.int (3 : Int32)), .val (.int (2 : Int32)), .val (.int c2), s11] [(.int (1 : Int32))]) _
          refine own_go (fun t_ k_ => XS.istore X14.here hx rfl (hb hby d4_109) rfl (l' := #[.val (.ref a1), .val (.ref ar), .val (.int (0 : Int32)), .val (.int (3 : Int32)), .val (.int (1 : Int32)), .val (.int (-1 : Int32)), .val (.int (1 : Int32)), .val (.int pd), .val (.int (3 : Int32)), .val (.int (2 : Int32)), .val (.int c2), s11]) rfl k_) ?_
          show own_G p.tables e below T14 (mkF m 111 #[.val (.ref a1), .val (.ref ar), .val (.int (0 : Int32)), .val (.int (3 : Int32)), .val (.int (1 : Int32)), .val (.int (-1 : Int32)), .val (.int (1 : Int32)), .val (.int pd), .val (.int (3 : Int32)), .val (.int (2 : Int32)), .val (.int c2), s11] []) _
          refine own_go (fun t_ k_ => XS.aloadN X14.here hx rfl (hb hby d4_111) rfl rfl k_) ?_
          show own_G p.tables e below T14 (mkF m 112 #[.val (.ref a1), .val (.ref ar), .val (.int (0 : Int32)), .val (.int (3 : Int32)), .val (.int (1 : Int32)), .val (.int (-1 : Int32)), .val (.int (1 : Int32)), .val (.int pd), .val (.int (3 : Int32)), .val (.int (2 : Int32)), .val (.int c2), s11] [(.ref ar)]) _
          refine own_go (fun t_ k_ => XS.iload X14.here hx rfl (hb hby d4_112) rfl k_) ?_
          show own_G p.tables e below T14 (mkF m 114 #[.val (.ref a1), .val (.ref ar), .val (.int (0 : Int32)), .val (.int (3 : Int32)), .val (.int (1 : Int32)), .val (.int (-1 : Int32)), .val (.int (1 : Int32)), .val (.int pd), .val (.int (3 : Int32)), .val (.int (2 : Int32)), .val (.int c2), s11] [(.int (2 : Int32)), (.ref ar)]) _
          refine own_go (fun t_ k_ => XS.iload X14.here hx rfl (hb hby d4_114) rfl k_) ?_
          show own_G p.tables e below T14 (mkF m 116 #[.val (.ref a1), .val (.ref ar), .val (.int (0 : Int32)), .val (.int (3 : Int32)), .val (.int (1 : Int32)), .val (.int (-1 : Int32)), .val (.int (1 : Int32)), .val (.int pd), .val (.int (3 : Int32)), .val (.int (2 : Int32)), .val (.int c2), s11] [(.int (3 : Int32)), (.int (2 : Int32)), (.ref ar)]) _
          obtain ⟨_, _, ⟨T17, L17, k17, n17⟩, -, X17, ⟨Lc17, hQ17, l17, y17, z17⟩, st17⟩ := Jvm.LawKit.callS X14 hx (y := (⟨"java/lang/Character", "codePointAt", "([CII)I"⟩ : MethodName)) hown (mvT hZ (hw _ (List.mem_of_getElem? (i := 34) rfl))) (mvT hZ (hw _ (List.mem_of_getElem? (i := 35) rfl))) (mvT hZ (hw _ (List.mem_of_getElem? (i := 36) rfl))) (mvT hZ (hw _ (List.mem_of_getElem? (i := 37) rfl))) (by decide) (backOf (W := 0) (rm6 l Z a0 hw [] ar (2 : Int32) (3 : Int32) clA (3 : Int32) c2 h0 n0 Z0 ArA SzA MzA hinA2 hatA2 hc_c2 (by decide) (by decide) (by decide)) hZ (hw _ (List.mem_of_getElem? (i := 37) rfl)) (hw _ (List.mem_of_getElem? (i := 36) rfl)) (by decide) (by decide)) (g := (mkF m 116 #[.val (.ref a1), .val (.ref ar), .val (.int (0 : Int32)), .val (.int (3 : Int32)), .val (.int (1 : Int32)), .val (.int (-1 : Int32)), .val (.int (1 : Int32)), .val (.int pd), .val (.int (3 : Int32)), .val (.int (2 : Int32)), .val (.int c2), s11] [(.int (3 : Int32)), (.int (2 : Int32)), (.ref ar)])) rfl (by rw [hml]; rfl) (argsL := [(.ref ar), (.int (2 : Int32)), (.int (3 : Int32))]) (rest := []) (lenOf own_pd1 rfl) rfl (by show 2 * 0 + _ ≤ _; exact Nat.le_of_eq rfl) (hb hby d4_116) (fun _ _ => ⟨rfl, e14, (by decide : 0 + 0 ≤ _), (by decide : 0 + 0 ≤ _)⟩)
          dsimp only [Pt.U, Pt.locs, Pt.cells, Pt.slots] at X17 l17 y17 z17 st17 hQ17
          subst l17 y17 z17
          obtain ⟨rfl, N17q, e17⟩ := hQ17
          have N17 := Fr.app N14 N17q
          refine own_go st17 ?_
          show own_G p.tables e below T17 (mkF m 119 #[.val (.ref a1), .val (.ref ar), .val (.int (0 : Int32)), .val (.int (3 : Int32)), .val (.int (1 : Int32)), .val (.int (-1 : Int32)), .val (.int (1 : Int32)), .val (.int pd), .val (.int (3 : Int32)), .val (.int (2 : Int32)), .val (.int c2), s11] [(.int c2)]) _
          refine own_go (fun t_ k_ => XS.istoreS X17.here hx rfl (hb hby d4_119) rfl rfl h11 k_) ?_
          show own_G p.tables e below T17 (mkF m 121 #[.val (.ref a1), .val (.ref ar), .val (.int (0 : Int32)), .val (.int (3 : Int32)), .val (.int (1 : Int32)), .val (.int (-1 : Int32)), .val (.int (1 : Int32)), .val (.int pd), .val (.int (3 : Int32)), .val (.int (2 : Int32)), .val (.int c2), .val (.int c2)] []) _
          refine own_go (fun t_ k_ => XS.iload X17.here hx rfl (hb hby d4_121) rfl k_) ?_
          show own_G p.tables e below T17 (mkF m 123 #[.val (.ref a1), .val (.ref ar), .val (.int (0 : Int32)), .val (.int (3 : Int32)), .val (.int (1 : Int32)), .val (.int (-1 : Int32)), .val (.int (1 : Int32)), .val (.int pd), .val (.int (3 : Int32)), .val (.int (2 : Int32)), .val (.int c2), .val (.int c2)] [(.int (2 : Int32))]) _
          refine own_go (fun t_ k_ => XS.iload X17.here hx rfl (hb hby d4_123) rfl k_) ?_
          show own_G p.tables e below T17 (mkF m 125 #[.val (.ref a1), .val (.ref ar), .val (.int (0 : Int32)), .val (.int (3 : Int32)), .val (.int (1 : Int32)), .val (.int (-1 : Int32)), .val (.int (1 : Int32)), .val (.int pd), .val (.int (3 : Int32)), .val (.int (2 : Int32)), .val (.int c2), .val (.int c2)] [(.int c2), (.int (2 : Int32))]) _
          obtain ⟨_, _, ⟨T18, L18, k18, n18⟩, -, X18, ⟨Lc18, hQ18, l18, y18, z18⟩, st18⟩ := Jvm.LawKit.callS X17 hx (y := (⟨"java/lang/Character", "charCount", "(I)I"⟩ : MethodName)) hown (mvT hZ (hw _ (List.mem_of_getElem? (i := 45) rfl))) (mvT hZ (hw _ (List.mem_of_getElem? (i := 46) rfl))) (mvT hZ (hw _ (List.mem_of_getElem? (i := 36) rfl))) (mvT hZ (hw _ (List.mem_of_getElem? (i := 47) rfl))) (by decide) (backOf (W := 1) (rm9 l Z a0 hw [] c2 h0 n0 Z0 hc_c2) hZ (hw _ (List.mem_of_getElem? (i := 47) rfl)) (hw _ (List.mem_of_getElem? (i := 36) rfl)) (by decide) (by decide)) (g := (mkF m 125 #[.val (.ref a1), .val (.ref ar), .val (.int (0 : Int32)), .val (.int (3 : Int32)), .val (.int (1 : Int32)), .val (.int (-1 : Int32)), .val (.int (1 : Int32)), .val (.int pd), .val (.int (3 : Int32)), .val (.int (2 : Int32)), .val (.int c2), .val (.int c2)] [(.int c2), (.int (2 : Int32))])) rfl (by rw [hml]; rfl) (argsL := [(.int c2)]) (rest := [(.int (2 : Int32))]) (lenOf own_pd3 rfl) rfl (by show 2 * 0 + _ ≤ _; exact Nat.le_of_eq rfl) (hb hby d4_125) (fun _ _ => ⟨rfl, e17, (by decide : 0 + 0 ≤ _), (by decide : 0 + 0 ≤ _)⟩)
          dsimp only [Pt.U, Pt.locs, Pt.cells, Pt.slots] at X18 l18 y18 z18 st18 hQ18
          subst l18 y18 z18
          obtain ⟨rfl, N18q, e18⟩ := hQ18
          have N18 := Fr.app N17 N18q
          refine own_go st18 ?_
          show own_G p.tables e below T18 (mkF m 128 #[.val (.ref a1), .val (.ref ar), .val (.int (0 : Int32)), .val (.int (3 : Int32)), .val (.int (1 : Int32)), .val (.int (-1 : Int32)), .val (.int (1 : Int32)), .val (.int pd), .val (.int (3 : Int32)), .val (.int (2 : Int32)), .val (.int c2), .val (.int c2)] [(.int (1 : Int32)), (.int (2 : Int32))]) _
          refine own_go (fun t_ k_ => XS.iconst X18.here hx rfl (hb hby d4_128) k_) ?_
          show own_G p.tables e below T18 (mkF m 129 #[.val (.ref a1), .val (.ref ar), .val (.int (0 : Int32)), .val (.int (3 : Int32)), .val (.int (1 : Int32)), .val (.int (-1 : Int32)), .val (.int (1 : Int32)), .val (.int pd), .val (.int (3 : Int32)), .val (.int (2 : Int32)), .val (.int c2), .val (.int c2)] [(.int (1 : Int32)), (.int (1 : Int32)), (.int (2 : Int32))]) _
          refine own_go (fun t_ k_ => XS.isub X18.here hx rfl (hb hby d4_129) rfl k_) ?_
          show own_G p.tables e below T18 (mkF m 130 #[.val (.ref a1), .val (.ref ar), .val (.int (0 : Int32)), .val (.int (3 : Int32)), .val (.int (1 : Int32)), .val (.int (-1 : Int32)), .val (.int (1 : Int32)), .val (.int pd), .val (.int (3 : Int32)), .val (.int (2 : Int32)), .val (.int c2), .val (.int c2)] [(.int (0 : Int32)), (.int (2 : Int32))]) _
          refine own_go (fun t_ k_ => XS.iadd X18.here hx rfl (hb hby d4_130) rfl k_) ?_
          show own_G p.tables e below T18 (mkF m 131 #[.val (.ref a1), .val (.ref ar), .val (.int (0 : Int32)), .val (.int (3 : Int32)), .val (.int (1 : Int32)), .val (.int (-1 : Int32)), .val (.int (1 : Int32)), .val (.int pd), .val (.int (3 : Int32)), .val (.int (2 : Int32)), .val (.int c2), .val (.int c2)] [(.int (2 : Int32))]) _
          refine own_go (fun t_ k_ => XS.istore X18.here hx rfl (hb hby d4_131) rfl (l' := #[.val (.ref a1), .val (.ref ar), .val (.int (0 : Int32)), .val (.int (3 : Int32)), .val (.int (1 : Int32)), .val (.int (-1 : Int32)), .val (.int (1 : Int32)), .val (.int pd), .val (.int (3 : Int32)), .val (.int (2 : Int32)), .val (.int c2), .val (.int c2)]) rfl k_) ?_
          show own_G p.tables e below T18 (mkF m 133 #[.val (.ref a1), .val (.ref ar), .val (.int (0 : Int32)), .val (.int (3 : Int32)), .val (.int (1 : Int32)), .val (.int (-1 : Int32)), .val (.int (1 : Int32)), .val (.int pd), .val (.int (3 : Int32)), .val (.int (2 : Int32)), .val (.int c2), .val (.int c2)] []) _
          refine own_go (fun t_ k_ => XS.iload X18.here hx rfl (hb hby d4_133) rfl k_) ?_
          show own_G p.tables e below T18 (mkF m 135 #[.val (.ref a1), .val (.ref ar), .val (.int (0 : Int32)), .val (.int (3 : Int32)), .val (.int (1 : Int32)), .val (.int (-1 : Int32)), .val (.int (1 : Int32)), .val (.int pd), .val (.int (3 : Int32)), .val (.int (2 : Int32)), .val (.int c2), .val (.int c2)] [(.int c2)]) _
          obtain ⟨_, _, ⟨T19, L19, k19, n19⟩, -, X19, ⟨Lc19, hQ19, l19, y19, z19⟩, st19⟩ := Jvm.LawKit.callS X18 hx (y := (⟨"com/example/einzug/einzug/rules/PermittedCharacters", "isPermitted", "(I)Z"⟩ : MethodName)) hown (mvT hZ (hw _ (List.mem_of_getElem? (i := 49) rfl))) (mvT hZ (hw _ (List.mem_of_getElem? (i := 50) rfl))) (mvT hZ (hw _ (List.mem_of_getElem? (i := 51) rfl))) (mvT hZ (hw _ (List.mem_of_getElem? (i := 52) rfl))) (by decide) (backOf (W := 0) (rm10 l Z a0 hw [] c2 aP clP h0 n0 Z0 S_P Ar_P sz_P tab_P) hZ (hw _ (List.mem_of_getElem? (i := 52) rfl)) (hw _ (List.mem_of_getElem? (i := 51) rfl)) (by decide) (by decide)) (g := (mkF m 135 #[.val (.ref a1), .val (.ref ar), .val (.int (0 : Int32)), .val (.int (3 : Int32)), .val (.int (1 : Int32)), .val (.int (-1 : Int32)), .val (.int (1 : Int32)), .val (.int pd), .val (.int (3 : Int32)), .val (.int (2 : Int32)), .val (.int c2), .val (.int c2)] [(.int c2)])) rfl (by rw [hml]; rfl) (argsL := [(.int c2)]) (rest := []) (lenOf own_pd2 rfl) rfl (by show 2 * 0 + _ ≤ _; exact Nat.le_of_eq rfl) (hb hby d4_135) (fun _ _ => ⟨rfl, e18, (by decide : 0 + 0 ≤ _), (by decide : 0 + 0 ≤ _)⟩)
          dsimp only [Pt.U, Pt.locs, Pt.cells, Pt.slots] at X19 l19 y19 z19 st19 hQ19
          subst l19 y19 z19
          obtain ⟨rfl, N19q, e19⟩ := hQ19
          have N19 := Fr.app N18 N19q
          refine own_go st19 ?_
          show own_G p.tables e below T19 (mkF m 138 #[.val (.ref a1), .val (.ref ar), .val (.int (0 : Int32)), .val (.int (3 : Int32)), .val (.int (1 : Int32)), .val (.int (-1 : Int32)), .val (.int (1 : Int32)), .val (.int pd), .val (.int (3 : Int32)), .val (.int (2 : Int32)), .val (.int c2), .val (.int c2)] [(.int (own_isp c2))]) _
          by_cases hc138_20 : (own_isp c2) = (0 : Int32)
          · skip
            refine own_go (fun t_ k_ => XS.ifNo X19.here hx rfl (hb hby d4_138) rfl ((if0 _ _).trans (teq hc138_20).2) k_) ?_
            show own_G p.tables e below T19 (mkF m 141 #[.val (.ref a1), .val (.ref ar), .val (.int (0 : Int32)), .val (.int (3 : Int32)), .val (.int (1 : Int32)), .val (.int (-1 : Int32)), .val (.int (1 : Int32)), .val (.int pd), .val (.int (3 : Int32)), .val (.int (2 : Int32)), .val (.int c2), .val (.int c2)] []) _
            refine own_go (fun t_ k_ => XS.iload X19.here hx rfl (hb hby d4_141) rfl k_) ?_
            show own_G p.tables e below T19 (mkF m 143 #[.val (.ref a1), .val (.ref ar), .val (.int (0 : Int32)), .val (.int (3 : Int32)), .val (.int (1 : Int32)), .val (.int (-1 : Int32)), .val (.int (1 : Int32)), .val (.int pd), .val (.int (3 : Int32)), .val (.int (2 : Int32)), .val (.int c2), .val (.int c2)] [(.int c2)]) _
            refine own_go (fun t_ k_ => XS.istore X19.here hx rfl (hb hby d4_143) rfl (l' := #[.val (.ref a1), .val (.ref ar), .val (.int (0 : Int32)), .val (.int (3 : Int32)), .val (.int (1 : Int32)), .val (.int c2), .val (.int (1 : Int32)), .val (.int pd), .val (.int (3 : Int32)), .val (.int (2 : Int32)), .val (.int c2), .val (.int c2)]) rfl k_) ?_
            show own_G p.tables e below T19 (mkF m 145 #[.val (.ref a1), .val (.ref ar), .val (.int (0 : Int32)), .val (.int (3 : Int32)), .val (.int (1 : Int32)), .val (.int c2), .val (.int (1 : Int32)), .val (.int pd), .val (.int (3 : Int32)), .val (.int (2 : Int32)), .val (.int c2), .val (.int c2)] []) _
            refine own_go (fun t_ k_ => XS.iinc X19.here hx rfl (hb hby d4_145) rfl (l' := #[.val (.ref a1), .val (.ref ar), .val (.int (0 : Int32)), .val (.int (3 : Int32)), .val (.int (1 : Int32)), .val (.int c2), .val (.int (1 : Int32)), .val (.int pd), .val (.int (3 : Int32)), .val (.int (3 : Int32)), .val (.int c2), .val (.int c2)]) rfl k_) ?_
            show own_G p.tables e below T19 (mkF m 148 #[.val (.ref a1), .val (.ref ar), .val (.int (0 : Int32)), .val (.int (3 : Int32)), .val (.int (1 : Int32)), .val (.int c2), .val (.int (1 : Int32)), .val (.int pd), .val (.int (3 : Int32)), .val (.int (3 : Int32)), .val (.int c2), .val (.int c2)] []) _
            refine own_go (fun t_ k_ => XS.goto X19.here hx rfl (pc0 := 148) (pc' := 43) rfl (hb hby d4_148) (by decide) (by decide) k_) ?_
            show own_G p.tables e below T19 (mkF m 43 #[.val (.ref a1), .val (.ref ar), .val (.int (0 : Int32)), .val (.int (3 : Int32)), .val (.int (1 : Int32)), .val (.int c2), .val (.int (1 : Int32)), .val (.int pd), .val (.int (3 : Int32)), .val (.int (3 : Int32)), .val (.int c2), .val (.int c2)] []) _
            have hstep : own_step c2 st' pd = (c2, (1 : Int32), pd) := by unfold own_step; rw [if_pos hc67_15, if_pos hc98_16, if_pos hc138_20]
            rw [hstep] at hrun
            exact turn3 _ _ _ _ _ _ _ X19 e19 N19 (One.val rfl) (One.val rfl) (Or.inr rfl) hrun
          · skip
            refine own_go (fun t_ k_ => XS.ifYes X19.here hx rfl (pc0 := 138) (pc' := 145) rfl (hb hby d4_138) rfl ((if0 _ _).trans (feq hc138_20).2) (by decide) (by decide) k_) ?_
            show own_G p.tables e below T19 (mkF m 145 #[.val (.ref a1), .val (.ref ar), .val (.int (0 : Int32)), .val (.int (3 : Int32)), .val (.int (1 : Int32)), .val (.int (-1 : Int32)), .val (.int (1 : Int32)), .val (.int pd), .val (.int (3 : Int32)), .val (.int (2 : Int32)), .val (.int c2), .val (.int c2)] []) _
            refine own_go (fun t_ k_ => XS.iinc X19.here hx rfl (hb hby d4_145) rfl (l' := #[.val (.ref a1), .val (.ref ar), .val (.int (0 : Int32)), .val (.int (3 : Int32)), .val (.int (1 : Int32)), .val (.int (-1 : Int32)), .val (.int (1 : Int32)), .val (.int pd), .val (.int (3 : Int32)), .val (.int (3 : Int32)), .val (.int c2), .val (.int c2)]) rfl k_) ?_
            show own_G p.tables e below T19 (mkF m 148 #[.val (.ref a1), .val (.ref ar), .val (.int (0 : Int32)), .val (.int (3 : Int32)), .val (.int (1 : Int32)), .val (.int (-1 : Int32)), .val (.int (1 : Int32)), .val (.int pd), .val (.int (3 : Int32)), .val (.int (3 : Int32)), .val (.int c2), .val (.int c2)] []) _
            refine own_go (fun t_ k_ => XS.goto X19.here hx rfl (pc0 := 148) (pc' := 43) rfl (hb hby d4_148) (by decide) (by decide) k_) ?_
            show own_G p.tables e below T19 (mkF m 43 #[.val (.ref a1), .val (.ref ar), .val (.int (0 : Int32)), .val (.int (3 : Int32)), .val (.int (1 : Int32)), .val (.int (-1 : Int32)), .val (.int (1 : Int32)), .val (.int pd), .val (.int (3 : Int32)), .val (.int (3 : Int32)), .val (.int c2), .val (.int c2)] []) _
            have hstep : own_step c2 st' pd = ((-1 : Int32), (1 : Int32), pd) := by unfold own_step; rw [if_pos hc67_15, if_pos hc98_16, if_neg hc138_20]
            rw [hstep] at hrun
            exact turn3 _ _ _ _ _ _ _ X19 e19 N19 (One.val rfl) (One.val rfl) (Or.inr rfl) hrun
        · skip
          refine own_go (fun t_ k_ => XS.icmpNo X14.here hx rfl (hb hby d4_98) rfl (feq hc98_16).1 k_) ?_
          show own_G p.tables e below T14 (mkF m 101 #[.val (.ref a1), .val (.ref ar), .val (.int (0 : Int32)), .val (.int (3 : Int32)), .val (.int (1 : Int32)), .val (.int (-1 : Int32)), .val (.int st'), .val (.int pd), .val (.int (3 : Int32)), .val (.int (2 : Int32)), .val (.int c2), s11] []) _
          refine own_go (fun t_ k_ => XS.iload X14.here hx rfl (hb hby d4_101) rfl k_) ?_
          show own_G p.tables e below T14 (mkF m 103 #[.val (.ref a1), .val (.ref ar), .val (.int (0 : Int32)), .val (.int (3 : Int32)), .val (.int (1 : Int32)), .val (.int (-1 : Int32)), .val (.int st'), .val (.int pd), .val (.int (3 : Int32)), .val (.int (2 : Int32)), .val (.int c2), s11] [(.int pd)]) _
          refine own_go (fun t_ k_ => XS.istore X14.here hx rfl (hb hby d4_103) rfl (l' := #[.val (.ref a1), .val (.ref ar), .val (.int (0 : Int32)), .val (.int (3 : Int32)), .val (.int (1 : Int32)), .val (.int pd), .val (.int st'), .val (.int pd), .val (.int (3 : Int32)), .val (.int (2 : Int32)), .val (.int c2), s11]) rfl k_) ?_
          show own_G p.tables e below T14 (mkF m 105 #[.val (.ref a1), .val (.ref ar), .val (.int (0 : Int32)), .val (.int (3 : Int32)), .val (.int (1 : Int32)), .val (.int pd), .val (.int st'), .val (.int pd), .val (.int (3 : Int32)), .val (.int (2 : Int32)), .val (.int c2), s11] []) _
          refine own_go (fun t_ k_ => XS.goto X14.here hx rfl (pc0 := 105) (pc' := 145) rfl (hb hby d4_105) (by decide) (by decide) k_) ?_
          show own_G p.tables e below T14 (mkF m 145 #[.val (.ref a1), .val (.ref ar), .val (.int (0 : Int32)), .val (.int (3 : Int32)), .val (.int (1 : Int32)), .val (.int pd), .val (.int st'), .val (.int pd), .val (.int (3 : Int32)), .val (.int (2 : Int32)), .val (.int c2), s11] []) _
          refine own_go (fun t_ k_ => XS.iinc X14.here hx rfl (hb hby d4_145) rfl (l' := #[.val (.ref a1), .val (.ref ar), .val (.int (0 : Int32)), .val (.int (3 : Int32)), .val (.int (1 : Int32)), .val (.int pd), .val (.int st'), .val (.int pd), .val (.int (3 : Int32)), .val (.int (3 : Int32)), .val (.int c2), s11]) rfl k_) ?_
          show own_G p.tables e below T14 (mkF m 148 #[.val (.ref a1), .val (.ref ar), .val (.int (0 : Int32)), .val (.int (3 : Int32)), .val (.int (1 : Int32)), .val (.int pd), .val (.int st'), .val (.int pd), .val (.int (3 : Int32)), .val (.int (3 : Int32)), .val (.int c2), s11] []) _
          refine own_go (fun t_ k_ => XS.goto X14.here hx rfl (pc0 := 148) (pc' := 43) rfl (hb hby d4_148) (by decide) (by decide) k_) ?_
          show own_G p.tables e below T14 (mkF m 43 #[.val (.ref a1), .val (.ref ar), .val (.int (0 : Int32)), .val (.int (3 : Int32)), .val (.int (1 : Int32)), .val (.int pd), .val (.int st'), .val (.int pd), .val (.int (3 : Int32)), .val (.int (3 : Int32)), .val (.int c2), s11] []) _
          have hstep : own_step c2 st' pd = (pd, st', pd) := by unfold own_step; rw [if_pos hc67_15, if_neg hc98_16]
          rw [hstep] at hrun
          exact turn3 _ _ _ _ _ _ _ X14 e14 N14 (One.val rfl) h11 hs hrun
      · skip
        refine own_go (fun t_ k_ => XS.ifNo X14.here hx rfl (hb hby d4_67) rfl ((if0 _ _).trans (feq hc67_15).1) k_) ?_
        show own_G p.tables e below T14 (mkF m 70 #[.val (.ref a1), .val (.ref ar), .val (.int (0 : Int32)), .val (.int (3 : Int32)), .val (.int (1 : Int32)), .val (.int (-1 : Int32)), .val (.int st'), .val (.int pd), .val (.int (3 : Int32)), .val (.int (2 : Int32)), .val (.int c2), s11] []) _
        refine own_go (fun t_ k_ => XS.iload X14.here hx rfl (hb hby d4_70) rfl k_) ?_
        show own_G p.tables e below T14 (mkF m 72 #[.val (.ref a1), .val (.ref ar), .val (.int (0 : Int32)), .val (.int (3 : Int32)), .val (.int (1 : Int32)), .val (.int (-1 : Int32)), .val (.int st'), .val (.int pd), .val (.int (3 : Int32)), .val (.int (2 : Int32)), .val (.int c2), s11] [(.int st')]) _
        by_cases hc72_21 : st' = (0 : Int32)
        · skip
          refine own_go (fun t_ k_ => XS.ifYes X14.here hx rfl (pc0 := 72) (pc' := 145) rfl (hb hby d4_72) rfl ((if0 _ _).trans (teq hc72_21).1) (by decide) (by decide) k_) ?_
          show own_G p.tables e below T14 (mkF m 145 #[.val (.ref a1), .val (.ref ar), .val (.int (0 : Int32)), .val (.int (3 : Int32)), .val (.int (1 : Int32)), .val (.int (-1 : Int32)), .val (.int st'), .val (.int pd), .val (.int (3 : Int32)), .val (.int (2 : Int32)), .val (.int c2), s11] []) _
          refine own_go (fun t_ k_ => XS.iinc X14.here hx rfl (hb hby d4_145) rfl (l' := #[.val (.ref a1), .val (.ref ar), .val (.int (0 : Int32)), .val (.int (3 : Int32)), .val (.int (1 : Int32)), .val (.int (-1 : Int32)), .val (.int st'), .val (.int pd), .val (.int (3 : Int32)), .val (.int (3 : Int32)), .val (.int c2), s11]) rfl k_) ?_
          show own_G p.tables e below T14 (mkF m 148 #[.val (.ref a1), .val (.ref ar), .val (.int (0 : Int32)), .val (.int (3 : Int32)), .val (.int (1 : Int32)), .val (.int (-1 : Int32)), .val (.int st'), .val (.int pd), .val (.int (3 : Int32)), .val (.int (3 : Int32)), .val (.int c2), s11] []) _
          refine own_go (fun t_ k_ => XS.goto X14.here hx rfl (pc0 := 148) (pc' := 43) rfl (hb hby d4_148) (by decide) (by decide) k_) ?_
          show own_G p.tables e below T14 (mkF m 43 #[.val (.ref a1), .val (.ref ar), .val (.int (0 : Int32)), .val (.int (3 : Int32)), .val (.int (1 : Int32)), .val (.int (-1 : Int32)), .val (.int st'), .val (.int pd), .val (.int (3 : Int32)), .val (.int (3 : Int32)), .val (.int c2), s11] []) _
          have hstep : own_step c2 st' pd = ((-1 : Int32), st', pd) := by unfold own_step; rw [if_neg hc67_15, if_pos hc72_21]
          rw [hstep] at hrun
          exact turn3 _ _ _ _ _ _ _ X14 e14 N14 (One.val rfl) h11 hs hrun
        · skip
          refine own_go (fun t_ k_ => XS.ifNo X14.here hx rfl (hb hby d4_72) rfl ((if0 _ _).trans (feq hc72_21).1) k_) ?_
          show own_G p.tables e below T14 (mkF m 75 #[.val (.ref a1), .val (.ref ar), .val (.int (0 : Int32)), .val (.int (3 : Int32)), .val (.int (1 : Int32)), .val (.int (-1 : Int32)), .val (.int st'), .val (.int pd), .val (.int (3 : Int32)), .val (.int (2 : Int32)), .val (.int c2), s11] []) _
          refine own_go (fun t_ k_ => XS.iload X14.here hx rfl (hb hby d4_75) rfl k_) ?_
          show own_G p.tables e below T14 (mkF m 77 #[.val (.ref a1), .val (.ref ar), .val (.int (0 : Int32)), .val (.int (3 : Int32)), .val (.int (1 : Int32)), .val (.int (-1 : Int32)), .val (.int st'), .val (.int pd), .val (.int (3 : Int32)), .val (.int (2 : Int32)), .val (.int c2), s11] [(.int c2)]) _
          refine own_go (fun t_ k_ => XS.bipush X14.here hx rfl (hb hby d4_77) k_) ?_
          show own_G p.tables e below T14 (mkF m 79 #[.val (.ref a1), .val (.ref ar), .val (.int (0 : Int32)), .val (.int (3 : Int32)), .val (.int (1 : Int32)), .val (.int (-1 : Int32)), .val (.int st'), .val (.int pd), .val (.int (3 : Int32)), .val (.int (2 : Int32)), .val (.int c2), s11] [(.int (32 : Int32)), (.int c2)]) _
          by_cases hc79_22 : c2 = (32 : Int32)
          · skip
            refine own_go (fun t_ k_ => XS.icmpYes X14.here hx rfl (pc0 := 79) (pc' := 145) rfl (hb hby d4_79) rfl (teq hc79_22).1 (by decide) (by decide) k_) ?_
            show own_G p.tables e below T14 (mkF m 145 #[.val (.ref a1), .val (.ref ar), .val (.int (0 : Int32)), .val (.int (3 : Int32)), .val (.int (1 : Int32)), .val (.int (-1 : Int32)), .val (.int st'), .val (.int pd), .val (.int (3 : Int32)), .val (.int (2 : Int32)), .val (.int c2), s11] []) _
            refine own_go (fun t_ k_ => XS.iinc X14.here hx rfl (hb hby d4_145) rfl (l' := #[.val (.ref a1), .val (.ref ar), .val (.int (0 : Int32)), .val (.int (3 : Int32)), .val (.int (1 : Int32)), .val (.int (-1 : Int32)), .val (.int st'), .val (.int pd), .val (.int (3 : Int32)), .val (.int (3 : Int32)), .val (.int c2), s11]) rfl k_) ?_
            show own_G p.tables e below T14 (mkF m 148 #[.val (.ref a1), .val (.ref ar), .val (.int (0 : Int32)), .val (.int (3 : Int32)), .val (.int (1 : Int32)), .val (.int (-1 : Int32)), .val (.int st'), .val (.int pd), .val (.int (3 : Int32)), .val (.int (3 : Int32)), .val (.int c2), s11] []) _
            refine own_go (fun t_ k_ => XS.goto X14.here hx rfl (pc0 := 148) (pc' := 43) rfl (hb hby d4_148) (by decide) (by decide) k_) ?_
            show own_G p.tables e below T14 (mkF m 43 #[.val (.ref a1), .val (.ref ar), .val (.int (0 : Int32)), .val (.int (3 : Int32)), .val (.int (1 : Int32)), .val (.int (-1 : Int32)), .val (.int st'), .val (.int pd), .val (.int (3 : Int32)), .val (.int (3 : Int32)), .val (.int c2), s11] []) _
            have hstep : own_step c2 st' pd = ((-1 : Int32), st', pd) := by unfold own_step; rw [if_neg hc67_15, if_neg hc72_21, if_pos hc79_22]
            rw [hstep] at hrun
            exact turn3 _ _ _ _ _ _ _ X14 e14 N14 (One.val rfl) h11 hs hrun
          · skip
            refine own_go (fun t_ k_ => XS.icmpNo X14.here hx rfl (hb hby d4_79) rfl (feq hc79_22).1 k_) ?_
            show own_G p.tables e below T14 (mkF m 82 #[.val (.ref a1), .val (.ref ar), .val (.int (0 : Int32)), .val (.int (3 : Int32)), .val (.int (1 : Int32)), .val (.int (-1 : Int32)), .val (.int st'), .val (.int pd), .val (.int (3 : Int32)), .val (.int (2 : Int32)), .val (.int c2), s11] []) _
            refine own_go (fun t_ k_ => XS.iload X14.here hx rfl (hb hby d4_82) rfl k_) ?_
            show own_G p.tables e below T14 (mkF m 84 #[.val (.ref a1), .val (.ref ar), .val (.int (0 : Int32)), .val (.int (3 : Int32)), .val (.int (1 : Int32)), .val (.int (-1 : Int32)), .val (.int st'), .val (.int pd), .val (.int (3 : Int32)), .val (.int (2 : Int32)), .val (.int c2), s11] [(.int pd)]) _
            refine own_go (fun t_ k_ => XS.iconst X14.here hx rfl (hb hby d4_84) k_) ?_
            show own_G p.tables e below T14 (mkF m 85 #[.val (.ref a1), .val (.ref ar), .val (.int (0 : Int32)), .val (.int (3 : Int32)), .val (.int (1 : Int32)), .val (.int (-1 : Int32)), .val (.int st'), .val (.int pd), .val (.int (3 : Int32)), .val (.int (2 : Int32)), .val (.int c2), s11] [(.int (-1 : Int32)), (.int pd)]) _
            by_cases hc85_23 : pd = (-1 : Int32)
            · skip
              refine own_go (fun t_ k_ => XS.icmpNo X14.here hx rfl (hb hby d4_85) rfl (teq hc85_23).2 k_) ?_
              show own_G p.tables e below T14 (mkF m 88 #[.val (.ref a1), .val (.ref ar), .val (.int (0 : Int32)), .val (.int (3 : Int32)), .val (.int (1 : Int32)), .val (.int (-1 : Int32)), .val (.int st'), .val (.int pd), .val (.int (3 : Int32)), .val (.int (2 : Int32)), .val (.int c2), s11] []) _
              refine own_go (fun t_ k_ => XS.iload X14.here hx rfl (hb hby d4_88) rfl k_) ?_
              show own_G p.tables e below T14 (mkF m 90 #[.val (.ref a1), .val (.ref ar), .val (.int (0 : Int32)), .val (.int (3 : Int32)), .val (.int (1 : Int32)), .val (.int (-1 : Int32)), .val (.int st'), .val (.int pd), .val (.int (3 : Int32)), .val (.int (2 : Int32)), .val (.int c2), s11] [(.int c2)]) _
              refine own_go (fun t_ k_ => XS.istore X14.here hx rfl (hb hby d4_90) rfl (l' := #[.val (.ref a1), .val (.ref ar), .val (.int (0 : Int32)), .val (.int (3 : Int32)), .val (.int (1 : Int32)), .val (.int (-1 : Int32)), .val (.int st'), .val (.int c2), .val (.int (3 : Int32)), .val (.int (2 : Int32)), .val (.int c2), s11]) rfl k_) ?_
              show own_G p.tables e below T14 (mkF m 92 #[.val (.ref a1), .val (.ref ar), .val (.int (0 : Int32)), .val (.int (3 : Int32)), .val (.int (1 : Int32)), .val (.int (-1 : Int32)), .val (.int st'), .val (.int c2), .val (.int (3 : Int32)), .val (.int (2 : Int32)), .val (.int c2), s11] []) _
              refine own_go (fun t_ k_ => XS.goto X14.here hx rfl (pc0 := 92) (pc' := 145) rfl (hb hby d4_92) (by decide) (by decide) k_) ?_
              show own_G p.tables e below T14 (mkF m 145 #[.val (.ref a1), .val (.ref ar), .val (.int (0 : Int32)), .val (.int (3 : Int32)), .val (.int (1 : Int32)), .val (.int (-1 : Int32)), .val (.int st'), .val (.int c2), .val (.int (3 : Int32)), .val (.int (2 : Int32)), .val (.int c2), s11] []) _
              refine own_go (fun t_ k_ => XS.iinc X14.here hx rfl (hb hby d4_145) rfl (l' := #[.val (.ref a1), .val (.ref ar), .val (.int (0 : Int32)), .val (.int (3 : Int32)), .val (.int (1 : Int32)), .val (.int (-1 : Int32)), .val (.int st'), .val (.int c2), .val (.int (3 : Int32)), .val (.int (3 : Int32)), .val (.int c2), s11]) rfl k_) ?_
              show own_G p.tables e below T14 (mkF m 148 #[.val (.ref a1), .val (.ref ar), .val (.int (0 : Int32)), .val (.int (3 : Int32)), .val (.int (1 : Int32)), .val (.int (-1 : Int32)), .val (.int st'), .val (.int c2), .val (.int (3 : Int32)), .val (.int (3 : Int32)), .val (.int c2), s11] []) _
              refine own_go (fun t_ k_ => XS.goto X14.here hx rfl (pc0 := 148) (pc' := 43) rfl (hb hby d4_148) (by decide) (by decide) k_) ?_
              show own_G p.tables e below T14 (mkF m 43 #[.val (.ref a1), .val (.ref ar), .val (.int (0 : Int32)), .val (.int (3 : Int32)), .val (.int (1 : Int32)), .val (.int (-1 : Int32)), .val (.int st'), .val (.int c2), .val (.int (3 : Int32)), .val (.int (3 : Int32)), .val (.int c2), s11] []) _
              have hstep : own_step c2 st' pd = ((-1 : Int32), st', c2) := by unfold own_step; rw [if_neg hc67_15, if_neg hc72_21, if_neg hc79_22, if_pos hc85_23]
              rw [hstep] at hrun
              exact turn3 _ _ _ _ _ _ _ X14 e14 N14 (One.val rfl) h11 hs hrun
            · skip
              refine own_go (fun t_ k_ => XS.icmpYes X14.here hx rfl (pc0 := 85) (pc' := 145) rfl (hb hby d4_85) rfl (feq hc85_23).2 (by decide) (by decide) k_) ?_
              show own_G p.tables e below T14 (mkF m 145 #[.val (.ref a1), .val (.ref ar), .val (.int (0 : Int32)), .val (.int (3 : Int32)), .val (.int (1 : Int32)), .val (.int (-1 : Int32)), .val (.int st'), .val (.int pd), .val (.int (3 : Int32)), .val (.int (2 : Int32)), .val (.int c2), s11] []) _
              refine own_go (fun t_ k_ => XS.iinc X14.here hx rfl (hb hby d4_145) rfl (l' := #[.val (.ref a1), .val (.ref ar), .val (.int (0 : Int32)), .val (.int (3 : Int32)), .val (.int (1 : Int32)), .val (.int (-1 : Int32)), .val (.int st'), .val (.int pd), .val (.int (3 : Int32)), .val (.int (3 : Int32)), .val (.int c2), s11]) rfl k_) ?_
              show own_G p.tables e below T14 (mkF m 148 #[.val (.ref a1), .val (.ref ar), .val (.int (0 : Int32)), .val (.int (3 : Int32)), .val (.int (1 : Int32)), .val (.int (-1 : Int32)), .val (.int st'), .val (.int pd), .val (.int (3 : Int32)), .val (.int (3 : Int32)), .val (.int c2), s11] []) _
              refine own_go (fun t_ k_ => XS.goto X14.here hx rfl (pc0 := 148) (pc' := 43) rfl (hb hby d4_148) (by decide) (by decide) k_) ?_
              show own_G p.tables e below T14 (mkF m 43 #[.val (.ref a1), .val (.ref ar), .val (.int (0 : Int32)), .val (.int (3 : Int32)), .val (.int (1 : Int32)), .val (.int (-1 : Int32)), .val (.int st'), .val (.int pd), .val (.int (3 : Int32)), .val (.int (3 : Int32)), .val (.int c2), s11] []) _
              have hstep : own_step c2 st' pd = ((-1 : Int32), st', pd) := by unfold own_step; rw [if_neg hc67_15, if_neg hc72_21, if_neg hc79_22, if_neg hc85_23]
              rw [hstep] at hrun
              exact turn3 _ _ _ _ _ _ _ X14 e14 N14 (One.val rfl) h11 hs hrun
    · rw [own_run_out _ _ hr1] at hrun
      show own_G p.tables e below Tt (mkF m 43 #[.val (.ref a1), .val (.ref ar), .val (.int (0 : Int32)), .val (.int (3 : Int32)), .val (.int (1 : Int32)), .val (.int r), .val (.int st'), .val (.int pd), .val (.int (3 : Int32)), .val (.int (2 : Int32)), s10, s11] []) _
      refine own_go (fun t_ k_ => XS.iload Xt.here hx rfl (hb hby d4_43) rfl k_) ?_
      show own_G p.tables e below Tt (mkF m 45 #[.val (.ref a1), .val (.ref ar), .val (.int (0 : Int32)), .val (.int (3 : Int32)), .val (.int (1 : Int32)), .val (.int r), .val (.int st'), .val (.int pd), .val (.int (3 : Int32)), .val (.int (2 : Int32)), s10, s11] [(.int (2 : Int32))]) _
      refine own_go (fun t_ k_ => XS.iload Xt.here hx rfl (hb hby d4_45) rfl k_) ?_
      show own_G p.tables e below Tt (mkF m 47 #[.val (.ref a1), .val (.ref ar), .val (.int (0 : Int32)), .val (.int (3 : Int32)), .val (.int (1 : Int32)), .val (.int r), .val (.int st'), .val (.int pd), .val (.int (3 : Int32)), .val (.int (2 : Int32)), s10, s11] [(.int (3 : Int32)), (.int (2 : Int32))]) _
      refine own_go (fun t_ k_ => XS.icmpNo Xt.here hx rfl (hb hby d4_47) rfl (tlt (by decide : ((2 : Int32) < (3 : Int32)))).2.1 k_) ?_
      show own_G p.tables e below Tt (mkF m 50 #[.val (.ref a1), .val (.ref ar), .val (.int (0 : Int32)), .val (.int (3 : Int32)), .val (.int (1 : Int32)), .val (.int r), .val (.int st'), .val (.int pd), .val (.int (3 : Int32)), .val (.int (2 : Int32)), s10, s11] []) _
      refine own_go (fun t_ k_ => XS.iload Xt.here hx rfl (hb hby d4_50) rfl k_) ?_
      show own_G p.tables e below Tt (mkF m 52 #[.val (.ref a1), .val (.ref ar), .val (.int (0 : Int32)), .val (.int (3 : Int32)), .val (.int (1 : Int32)), .val (.int r), .val (.int st'), .val (.int pd), .val (.int (3 : Int32)), .val (.int (2 : Int32)), s10, s11] [(.int r)]) _
      refine own_go (fun t_ k_ => XS.iconst Xt.here hx rfl (hb hby d4_52) k_) ?_
      show own_G p.tables e below Tt (mkF m 53 #[.val (.ref a1), .val (.ref ar), .val (.int (0 : Int32)), .val (.int (3 : Int32)), .val (.int (1 : Int32)), .val (.int r), .val (.int st'), .val (.int pd), .val (.int (3 : Int32)), .val (.int (2 : Int32)), s10, s11] [(.int (-1 : Int32)), (.int r)]) _
      refine own_go (fun t_ k_ => XS.icmpYes Xt.here hx rfl (pc0 := 53) (pc' := 151) rfl (hb hby d4_53) rfl (feq hr1).2 (by decide) (by decide) k_) ?_
      show own_G p.tables e below Tt (mkF m 151 #[.val (.ref a1), .val (.ref ar), .val (.int (0 : Int32)), .val (.int (3 : Int32)), .val (.int (1 : Int32)), .val (.int r), .val (.int st'), .val (.int pd), .val (.int (3 : Int32)), .val (.int (2 : Int32)), s10, s11] []) _
      exact exit _ _ _ _ _ _ _ _ Xt et Nt h10 h11 hs hrun
  have turn1 : ∀ (r st' pd : Int32) (s10 s11 : Slot) (Tt : State) (locs : List Loc), Stand p l e ({ frames := 3, cells := 0, slots := 0, locals := 42 } : Room) s m #[(.ref a1), (.ref ar), (.int (0 : Int32)), (.int (3 : Int32))] below meth c Tt locs 0 0 → Tt.heap = h0 → Fr n0 locs → One s10 → One s11 → (st' = 0 ∨ st' = 1) → (own_run [c0, c1, c2] (R1, S1, D1)) = own_run [c1, c2] (r, st', pd) → own_G p.tables e below Tt (mkF m 43 #[.val (.ref a1), .val (.ref ar), .val (.int (0 : Int32)), .val (.int (3 : Int32)), .val (.int (1 : Int32)), .val (.int r), .val (.int st'), .val (.int pd), .val (.int (3 : Int32)), .val (.int (1 : Int32)), s10, s11] []) (own_P below s (Q4n3d2 Z a1 ar aR aS aD kR kS kD R0 R1 S0 S1 D0 D1 ka c0 c1 c2 aP clP h0 n0) (({ frames := 3, cells := 0, slots := 0, locals := 42 } : Room)).cells (({ frames := 3, cells := 0, slots := 0, locals := 42 } : Room)).slots) := by
    intro r st' pd s10 s11 Tt locs Xt et Nt h10 h11 hs hrun
    by_cases hr1 : r = -1
    · subst hr1
      rw [own_run_in] at hrun
      show own_G p.tables e below Tt (mkF m 43 #[.val (.ref a1), .val (.ref ar), .val (.int (0 : Int32)), .val (.int (3 : Int32)), .val (.int (1 : Int32)), .val (.int (-1 : Int32)), .val (.int st'), .val (.int pd), .val (.int (3 : Int32)), .val (.int (1 : Int32)), s10, s11] []) _
      refine own_go (fun t_ k_ => XS.iload Xt.here hx rfl (hb hby d4_43) rfl k_) ?_
      show own_G p.tables e below Tt (mkF m 45 #[.val (.ref a1), .val (.ref ar), .val (.int (0 : Int32)), .val (.int (3 : Int32)), .val (.int (1 : Int32)), .val (.int (-1 : Int32)), .val (.int st'), .val (.int pd), .val (.int (3 : Int32)), .val (.int (1 : Int32)), s10, s11] [(.int (1 : Int32))]) _
      refine own_go (fun t_ k_ => XS.iload Xt.here hx rfl (hb hby d4_45) rfl k_) ?_
      show own_G p.tables e below Tt (mkF m 47 #[.val (.ref a1), .val (.ref ar), .val (.int (0 : Int32)), .val (.int (3 : Int32)), .val (.int (1 : Int32)), .val (.int (-1 : Int32)), .val (.int st'), .val (.int pd), .val (.int (3 : Int32)), .val (.int (1 : Int32)), s10, s11] [(.int (3 : Int32)), (.int (1 : Int32))]) _
      refine own_go (fun t_ k_ => XS.icmpNo Xt.here hx rfl (hb hby d4_47) rfl (tlt (by decide : ((1 : Int32) < (3 : Int32)))).2.1 k_) ?_
      show own_G p.tables e below Tt (mkF m 50 #[.val (.ref a1), .val (.ref ar), .val (.int (0 : Int32)), .val (.int (3 : Int32)), .val (.int (1 : Int32)), .val (.int (-1 : Int32)), .val (.int st'), .val (.int pd), .val (.int (3 : Int32)), .val (.int (1 : Int32)), s10, s11] []) _
      refine own_go (fun t_ k_ => XS.iload Xt.here hx rfl (hb hby d4_50) rfl k_) ?_
      show own_G p.tables e below Tt (mkF m 52 #[.val (.ref a1), .val (.ref ar), .val (.int (0 : Int32)), .val (.int (3 : Int32)), .val (.int (1 : Int32)), .val (.int (-1 : Int32)), .val (.int st'), .val (.int pd), .val (.int (3 : Int32)), .val (.int (1 : Int32)), s10, s11] [(.int (-1 : Int32))]) _
      refine own_go (fun t_ k_ => XS.iconst Xt.here hx rfl (hb hby d4_52) k_) ?_
      show own_G p.tables e below Tt (mkF m 53 #[.val (.ref a1), .val (.ref ar), .val (.int (0 : Int32)), .val (.int (3 : Int32)), .val (.int (1 : Int32)), .val (.int (-1 : Int32)), .val (.int st'), .val (.int pd), .val (.int (3 : Int32)), .val (.int (1 : Int32)), s10, s11] [(.int (-1 : Int32)), (.int (-1 : Int32))]) _
      refine own_go (fun t_ k_ => XS.icmpNo Xt.here hx rfl (hb hby d4_53) rfl (teq (by decide : ((-1 : Int32) = (-1 : Int32)))).2 k_) ?_
      show own_G p.tables e below Tt (mkF m 56 #[.val (.ref a1), .val (.ref ar), .val (.int (0 : Int32)), .val (.int (3 : Int32)), .val (.int (1 : Int32)), .val (.int (-1 : Int32)), .val (.int st'), .val (.int pd), .val (.int (3 : Int32)), .val (.int (1 : Int32)), s10, s11] []) _
      refine own_go (fun t_ k_ => XS.aloadN Xt.here hx rfl (hb hby d4_56) rfl rfl k_) ?_
      show own_G p.tables e below Tt (mkF m 57 #[.val (.ref a1), .val (.ref ar), .val (.int (0 : Int32)), .val (.int (3 : Int32)), .val (.int (1 : Int32)), .val (.int (-1 : Int32)), .val (.int st'), .val (.int pd), .val (.int (3 : Int32)), .val (.int (1 : Int32)), s10, s11] [(.ref ar)]) _
      refine own_go (fun t_ k_ => XS.iload Xt.here hx rfl (hb hby d4_57) rfl k_) ?_
      show own_G p.tables e below Tt (mkF m 59 #[.val (.ref a1), .val (.ref ar), .val (.int (0 : Int32)), .val (.int (3 : Int32)), .val (.int (1 : Int32)), .val (.int (-1 : Int32)), .val (.int st'), .val (.int pd), .val (.int (3 : Int32)), .val (.int (1 : Int32)), s10, s11] [(.int (1 : Int32)), (.ref ar)]) _
      refine own_go (fun t_ k_ => Xt.caload hx (j := (1 : Int32)) (v := (.int c1)) (by rw [et]; exact ArA.1) (State.isArrayOf_alike hZ.alike ArA.2.1) ArA.2.2 hinA1 hatA1 (g := (mkF m 59 #[.val (.ref a1), .val (.ref ar), .val (.int (0 : Int32)), .val (.int (3 : Int32)), .val (.int (1 : Int32)), .val (.int (-1 : Int32)), .val (.int st'), .val (.int pd), .val (.int (3 : Int32)), .val (.int (1 : Int32)), s10, s11] [(.int (1 : Int32)), (.ref ar)])) rfl rfl (hb hby d4_59) _ k_) ?_
      show own_G p.tables e below Tt (mkF m 60 #[.val (.ref a1), .val (.ref ar), .val (.int (0 : Int32)), .val (.int (3 : Int32)), .val (.int (1 : Int32)), .val (.int (-1 : Int32)), .val (.int st'), .val (.int pd), .val (.int (3 : Int32)), .val (.int (1 : Int32)), s10, s11] [(.int c1)]) _
      refine own_go (fun t_ k_ => XS.istoreS Xt.here hx rfl (hb hby d4_60) rfl rfl h10 k_) ?_
      show own_G p.tables e below Tt (mkF m 62 #[.val (.ref a1), .val (.ref ar), .val (.int (0 : Int32)), .val (.int (3 : Int32)), .val (.int (1 : Int32)), .val (.int (-1 : Int32)), .val (.int st'), .val (.int pd), .val (.int (3 : Int32)), .val (.int (1 : Int32)), .val (.int c1), s11] []) _
      refine own_go (fun t_ k_ => XS.iload Xt.here hx rfl (hb hby d4_62) rfl k_) ?_
      show own_G p.tables e below Tt (mkF m 64 #[.val (.ref a1), .val (.ref ar), .val (.int (0 : Int32)), .val (.int (3 : Int32)), .val (.int (1 : Int32)), .val (.int (-1 : Int32)), .val (.int st'), .val (.int pd), .val (.int (3 : Int32)), .val (.int (1 : Int32)), .val (.int c1), s11] [(.int c1)]) _
      obtain ⟨_, _, ⟨T24, L24, k24, n24⟩, -, X24, ⟨Lc24, hQ24, l24, y24, z24⟩, st24⟩ := Jvm.LawKit.callS Xt hx (y := (⟨"com/example/einzug/einzug/rules/XmlCharacters", "isSpace", "(I)Z"⟩ : MethodName)) hown (mvT hZ (hw _ (List.mem_of_getElem? (i := 30) rfl))) (mvT hZ (hw _ (List.mem_of_getElem? (i := 31) rfl))) (mvT hZ (hw _ (List.mem_of_getElem? (i := 32) rfl))) (mvT hZ (hw _ (List.mem_of_getElem? (i := 33) rfl))) (by decide) (backOf (W := 0) (rm5 l Z a0 hw [] c1 h0 n0 Z0) hZ (hw _ (List.mem_of_getElem? (i := 33) rfl)) (hw _ (List.mem_of_getElem? (i := 32) rfl)) (by decide) (by decide)) (g := (mkF m 64 #[.val (.ref a1), .val (.ref ar), .val (.int (0 : Int32)), .val (.int (3 : Int32)), .val (.int (1 : Int32)), .val (.int (-1 : Int32)), .val (.int st'), .val (.int pd), .val (.int (3 : Int32)), .val (.int (1 : Int32)), .val (.int c1), s11] [(.int c1)])) rfl (by rw [hml]; rfl) (argsL := [(.int c1)]) (rest := []) (lenOf own_pd2 rfl) rfl (by show 2 * 0 + _ ≤ _; exact Nat.le_of_eq rfl) (hb hby d4_64) (fun _ _ => ⟨rfl, et, (by decide : 0 + 0 ≤ _), (by decide : 0 + 0 ≤ _)⟩)
      dsimp only [Pt.U, Pt.locs, Pt.cells, Pt.slots] at X24 l24 y24 z24 st24 hQ24
      subst l24 y24 z24
      obtain ⟨rfl, N24q, e24⟩ := hQ24
      have N24 := Fr.app Nt N24q
      refine own_go st24 ?_
      show own_G p.tables e below T24 (mkF m 67 #[.val (.ref a1), .val (.ref ar), .val (.int (0 : Int32)), .val (.int (3 : Int32)), .val (.int (1 : Int32)), .val (.int (-1 : Int32)), .val (.int st'), .val (.int pd), .val (.int (3 : Int32)), .val (.int (1 : Int32)), .val (.int c1), s11] [(.int (own_sp c1))]) _
      by_cases hc67_25 : (own_sp c1) = (0 : Int32)
      · skip
        refine own_go (fun t_ k_ => XS.ifYes X24.here hx rfl (pc0 := 67) (pc' := 95) rfl (hb hby d4_67) rfl ((if0 _ _).trans (teq hc67_25).1) (by decide) (by decide) k_) ?_
        show own_G p.tables e below T24 (mkF m 95 #[.val (.ref a1), .val (.ref ar), .val (.int (0 : Int32)), .val (.int (3 : Int32)), .val (.int (1 : Int32)), .val (.int (-1 : Int32)), .val (.int st'), .val (.int pd), .val (.int (3 : Int32)), .val (.int (1 : Int32)), .val (.int c1), s11] []) _
        refine own_go (fun t_ k_ => XS.iload X24.here hx rfl (hb hby d4_95) rfl k_) ?_
        show own_G p.tables e below T24 (mkF m 97 #[.val (.ref a1), .val (.ref ar), .val (.int (0 : Int32)), .val (.int (3 : Int32)), .val (.int (1 : Int32)), .val (.int (-1 : Int32)), .val (.int st'), .val (.int pd), .val (.int (3 : Int32)), .val (.int (1 : Int32)), .val (.int c1), s11] [(.int pd)]) _
        refine own_go (fun t_ k_ => XS.iconst X24.here hx rfl (hb hby d4_97) k_) ?_
        show own_G p.tables e below T24 (mkF m 98 #[.val (.ref a1), .val (.ref ar), .val (.int (0 : Int32)), .val (.int (3 : Int32)), .val (.int (1 : Int32)), .val (.int (-1 : Int32)), .val (.int st'), .val (.int pd), .val (.int (3 : Int32)), .val (.int (1 : Int32)), .val (.int c1), s11] [(.int (-1 : Int32)), (.int pd)]) _
        by_cases hc98_26 : pd = (-1 : Int32)
        · skip
          refine own_go (fun t_ k_ => XS.icmpYes X24.here hx rfl (pc0 := 98) (pc' := 108) rfl (hb hby d4_98) rfl (teq hc98_26).1 (by decide) (by decide) k_) ?_
          show own_G p.tables e below T24 (mkF m 108 #[.val (.ref a1), .val (.ref ar), .val (.int (0 : Int32)), .val (.int (3 : Int32)), .val (.int (1 : Int32)), .val (.int (-1 : Int32)), .val (.int st'), .val (.int pd), .val (.int (3 : Int32)), .val (.int (1 : Int32)), .val (.int c1), s11] []) _
          refine own_go (fun t_ k_ => XS.iconst X24.here hx rfl (hb hby d4_108) k_) ?_
          show own_G p.tables e below T24 (mkF m 109 #[.val (.ref a1), .val (.ref ar), .val (.int (0 : Int32)), .val (.int (3 : Int32)), .val (.int (1 : Int32)), .val (.int (-1 : Int32)), .val (.int st'), .val (.int pd), .val (.int (3 : Int32)), .val (.int (1 : Int32)), .val (.int c1), s11] [(.int (1 : Int32))]) _
          refine own_go (fun t_ k_ => XS.istore X24.here hx rfl (hb hby d4_109) rfl (l' := #[.val (.ref a1), .val (.ref ar), .val (.int (0 : Int32)), .val (.int (3 : Int32)), .val (.int (1 : Int32)), .val (.int (-1 : Int32)), .val (.int (1 : Int32)), .val (.int pd), .val (.int (3 : Int32)), .val (.int (1 : Int32)), .val (.int c1), s11]) rfl k_) ?_
          show own_G p.tables e below T24 (mkF m 111 #[.val (.ref a1), .val (.ref ar), .val (.int (0 : Int32)), .val (.int (3 : Int32)), .val (.int (1 : Int32)), .val (.int (-1 : Int32)), .val (.int (1 : Int32)), .val (.int pd), .val (.int (3 : Int32)), .val (.int (1 : Int32)), .val (.int c1), s11] []) _
          refine own_go (fun t_ k_ => XS.aloadN X24.here hx rfl (hb hby d4_111) rfl rfl k_) ?_
          show own_G p.tables e below T24 (mkF m 112 #[.val (.ref a1), .val (.ref ar), .val (.int (0 : Int32)), .val (.int (3 : Int32)), .val (.int (1 : Int32)), .val (.int (-1 : Int32)), .val (.int (1 : Int32)), .val (.int pd), .val (.int (3 : Int32)), .val (.int (1 : Int32)), .val (.int c1), s11] [(.ref ar)]) _
          refine own_go (fun t_ k_ => XS.iload X24.here hx rfl (hb hby d4_112) rfl k_) ?_
          show own_G p.tables e below T24 (mkF m 114 #[.val (.ref a1), .val (.ref ar), .val (.int (0 : Int32)), .val (.int (3 : Int32)), .val (.int (1 : Int32)), .val (.int (-1 : Int32)), .val (.int (1 : Int32)), .val (.int pd), .val (.int (3 : Int32)), .val (.int (1 : Int32)), .val (.int c1), s11] [(.int (1 : Int32)), (.ref ar)]) _
          refine own_go (fun t_ k_ => XS.iload X24.here hx rfl (hb hby d4_114) rfl k_) ?_
          show own_G p.tables e below T24 (mkF m 116 #[.val (.ref a1), .val (.ref ar), .val (.int (0 : Int32)), .val (.int (3 : Int32)), .val (.int (1 : Int32)), .val (.int (-1 : Int32)), .val (.int (1 : Int32)), .val (.int pd), .val (.int (3 : Int32)), .val (.int (1 : Int32)), .val (.int c1), s11] [(.int (3 : Int32)), (.int (1 : Int32)), (.ref ar)]) _
          obtain ⟨_, _, ⟨T27, L27, k27, n27⟩, -, X27, ⟨Lc27, hQ27, l27, y27, z27⟩, st27⟩ := Jvm.LawKit.callS X24 hx (y := (⟨"java/lang/Character", "codePointAt", "([CII)I"⟩ : MethodName)) hown (mvT hZ (hw _ (List.mem_of_getElem? (i := 34) rfl))) (mvT hZ (hw _ (List.mem_of_getElem? (i := 35) rfl))) (mvT hZ (hw _ (List.mem_of_getElem? (i := 36) rfl))) (mvT hZ (hw _ (List.mem_of_getElem? (i := 37) rfl))) (by decide) (backOf (W := 0) (rm6 l Z a0 hw [] ar (1 : Int32) (3 : Int32) clA (3 : Int32) c1 h0 n0 Z0 ArA SzA MzA hinA1 hatA1 hc_c1 (by decide) (by decide) (by decide)) hZ (hw _ (List.mem_of_getElem? (i := 37) rfl)) (hw _ (List.mem_of_getElem? (i := 36) rfl)) (by decide) (by decide)) (g := (mkF m 116 #[.val (.ref a1), .val (.ref ar), .val (.int (0 : Int32)), .val (.int (3 : Int32)), .val (.int (1 : Int32)), .val (.int (-1 : Int32)), .val (.int (1 : Int32)), .val (.int pd), .val (.int (3 : Int32)), .val (.int (1 : Int32)), .val (.int c1), s11] [(.int (3 : Int32)), (.int (1 : Int32)), (.ref ar)])) rfl (by rw [hml]; rfl) (argsL := [(.ref ar), (.int (1 : Int32)), (.int (3 : Int32))]) (rest := []) (lenOf own_pd1 rfl) rfl (by show 2 * 0 + _ ≤ _; exact Nat.le_of_eq rfl) (hb hby d4_116) (fun _ _ => ⟨rfl, e24, (by decide : 0 + 0 ≤ _), (by decide : 0 + 0 ≤ _)⟩)
          dsimp only [Pt.U, Pt.locs, Pt.cells, Pt.slots] at X27 l27 y27 z27 st27 hQ27
          subst l27 y27 z27
          obtain ⟨rfl, N27q, e27⟩ := hQ27
          have N27 := Fr.app N24 N27q
          refine own_go st27 ?_
          show own_G p.tables e below T27 (mkF m 119 #[.val (.ref a1), .val (.ref ar), .val (.int (0 : Int32)), .val (.int (3 : Int32)), .val (.int (1 : Int32)), .val (.int (-1 : Int32)), .val (.int (1 : Int32)), .val (.int pd), .val (.int (3 : Int32)), .val (.int (1 : Int32)), .val (.int c1), s11] [(.int c1)]) _
          refine own_go (fun t_ k_ => XS.istoreS X27.here hx rfl (hb hby d4_119) rfl rfl h11 k_) ?_
          show own_G p.tables e below T27 (mkF m 121 #[.val (.ref a1), .val (.ref ar), .val (.int (0 : Int32)), .val (.int (3 : Int32)), .val (.int (1 : Int32)), .val (.int (-1 : Int32)), .val (.int (1 : Int32)), .val (.int pd), .val (.int (3 : Int32)), .val (.int (1 : Int32)), .val (.int c1), .val (.int c1)] []) _
          refine own_go (fun t_ k_ => XS.iload X27.here hx rfl (hb hby d4_121) rfl k_) ?_
          show own_G p.tables e below T27 (mkF m 123 #[.val (.ref a1), .val (.ref ar), .val (.int (0 : Int32)), .val (.int (3 : Int32)), .val (.int (1 : Int32)), .val (.int (-1 : Int32)), .val (.int (1 : Int32)), .val (.int pd), .val (.int (3 : Int32)), .val (.int (1 : Int32)), .val (.int c1), .val (.int c1)] [(.int (1 : Int32))]) _
          refine own_go (fun t_ k_ => XS.iload X27.here hx rfl (hb hby d4_123) rfl k_) ?_
          show own_G p.tables e below T27 (mkF m 125 #[.val (.ref a1), .val (.ref ar), .val (.int (0 : Int32)), .val (.int (3 : Int32)), .val (.int (1 : Int32)), .val (.int (-1 : Int32)), .val (.int (1 : Int32)), .val (.int pd), .val (.int (3 : Int32)), .val (.int (1 : Int32)), .val (.int c1), .val (.int c1)] [(.int c1), (.int (1 : Int32))]) _
          obtain ⟨_, _, ⟨T28, L28, k28, n28⟩, -, X28, ⟨Lc28, hQ28, l28, y28, z28⟩, st28⟩ := Jvm.LawKit.callS X27 hx (y := (⟨"java/lang/Character", "charCount", "(I)I"⟩ : MethodName)) hown (mvT hZ (hw _ (List.mem_of_getElem? (i := 45) rfl))) (mvT hZ (hw _ (List.mem_of_getElem? (i := 46) rfl))) (mvT hZ (hw _ (List.mem_of_getElem? (i := 36) rfl))) (mvT hZ (hw _ (List.mem_of_getElem? (i := 47) rfl))) (by decide) (backOf (W := 1) (rm9 l Z a0 hw [] c1 h0 n0 Z0 hc_c1) hZ (hw _ (List.mem_of_getElem? (i := 47) rfl)) (hw _ (List.mem_of_getElem? (i := 36) rfl)) (by decide) (by decide)) (g := (mkF m 125 #[.val (.ref a1), .val (.ref ar), .val (.int (0 : Int32)), .val (.int (3 : Int32)), .val (.int (1 : Int32)), .val (.int (-1 : Int32)), .val (.int (1 : Int32)), .val (.int pd), .val (.int (3 : Int32)), .val (.int (1 : Int32)), .val (.int c1), .val (.int c1)] [(.int c1), (.int (1 : Int32))])) rfl (by rw [hml]; rfl) (argsL := [(.int c1)]) (rest := [(.int (1 : Int32))]) (lenOf own_pd3 rfl) rfl (by show 2 * 0 + _ ≤ _; exact Nat.le_of_eq rfl) (hb hby d4_125) (fun _ _ => ⟨rfl, e27, (by decide : 0 + 0 ≤ _), (by decide : 0 + 0 ≤ _)⟩)
          dsimp only [Pt.U, Pt.locs, Pt.cells, Pt.slots] at X28 l28 y28 z28 st28 hQ28
          subst l28 y28 z28
          obtain ⟨rfl, N28q, e28⟩ := hQ28
          have N28 := Fr.app N27 N28q
          refine own_go st28 ?_
          show own_G p.tables e below T28 (mkF m 128 #[.val (.ref a1), .val (.ref ar), .val (.int (0 : Int32)), .val (.int (3 : Int32)), .val (.int (1 : Int32)), .val (.int (-1 : Int32)), .val (.int (1 : Int32)), .val (.int pd), .val (.int (3 : Int32)), .val (.int (1 : Int32)), .val (.int c1), .val (.int c1)] [(.int (1 : Int32)), (.int (1 : Int32))]) _
          refine own_go (fun t_ k_ => XS.iconst X28.here hx rfl (hb hby d4_128) k_) ?_
          show own_G p.tables e below T28 (mkF m 129 #[.val (.ref a1), .val (.ref ar), .val (.int (0 : Int32)), .val (.int (3 : Int32)), .val (.int (1 : Int32)), .val (.int (-1 : Int32)), .val (.int (1 : Int32)), .val (.int pd), .val (.int (3 : Int32)), .val (.int (1 : Int32)), .val (.int c1), .val (.int c1)] [(.int (1 : Int32)), (.int (1 : Int32)), (.int (1 : Int32))]) _
          refine own_go (fun t_ k_ => XS.isub X28.here hx rfl (hb hby d4_129) rfl k_) ?_
          show own_G p.tables e below T28 (mkF m 130 #[.val (.ref a1), .val (.ref ar), .val (.int (0 : Int32)), .val (.int (3 : Int32)), .val (.int (1 : Int32)), .val (.int (-1 : Int32)), .val (.int (1 : Int32)), .val (.int pd), .val (.int (3 : Int32)), .val (.int (1 : Int32)), .val (.int c1), .val (.int c1)] [(.int (0 : Int32)), (.int (1 : Int32))]) _
          refine own_go (fun t_ k_ => XS.iadd X28.here hx rfl (hb hby d4_130) rfl k_) ?_
          show own_G p.tables e below T28 (mkF m 131 #[.val (.ref a1), .val (.ref ar), .val (.int (0 : Int32)), .val (.int (3 : Int32)), .val (.int (1 : Int32)), .val (.int (-1 : Int32)), .val (.int (1 : Int32)), .val (.int pd), .val (.int (3 : Int32)), .val (.int (1 : Int32)), .val (.int c1), .val (.int c1)] [(.int (1 : Int32))]) _
          refine own_go (fun t_ k_ => XS.istore X28.here hx rfl (hb hby d4_131) rfl (l' := #[.val (.ref a1), .val (.ref ar), .val (.int (0 : Int32)), .val (.int (3 : Int32)), .val (.int (1 : Int32)), .val (.int (-1 : Int32)), .val (.int (1 : Int32)), .val (.int pd), .val (.int (3 : Int32)), .val (.int (1 : Int32)), .val (.int c1), .val (.int c1)]) rfl k_) ?_
          show own_G p.tables e below T28 (mkF m 133 #[.val (.ref a1), .val (.ref ar), .val (.int (0 : Int32)), .val (.int (3 : Int32)), .val (.int (1 : Int32)), .val (.int (-1 : Int32)), .val (.int (1 : Int32)), .val (.int pd), .val (.int (3 : Int32)), .val (.int (1 : Int32)), .val (.int c1), .val (.int c1)] []) _
          refine own_go (fun t_ k_ => XS.iload X28.here hx rfl (hb hby d4_133) rfl k_) ?_
          show own_G p.tables e below T28 (mkF m 135 #[.val (.ref a1), .val (.ref ar), .val (.int (0 : Int32)), .val (.int (3 : Int32)), .val (.int (1 : Int32)), .val (.int (-1 : Int32)), .val (.int (1 : Int32)), .val (.int pd), .val (.int (3 : Int32)), .val (.int (1 : Int32)), .val (.int c1), .val (.int c1)] [(.int c1)]) _
          obtain ⟨_, _, ⟨T29, L29, k29, n29⟩, -, X29, ⟨Lc29, hQ29, l29, y29, z29⟩, st29⟩ := Jvm.LawKit.callS X28 hx (y := (⟨"com/example/einzug/einzug/rules/PermittedCharacters", "isPermitted", "(I)Z"⟩ : MethodName)) hown (mvT hZ (hw _ (List.mem_of_getElem? (i := 49) rfl))) (mvT hZ (hw _ (List.mem_of_getElem? (i := 50) rfl))) (mvT hZ (hw _ (List.mem_of_getElem? (i := 51) rfl))) (mvT hZ (hw _ (List.mem_of_getElem? (i := 52) rfl))) (by decide) (backOf (W := 0) (rm10 l Z a0 hw [] c1 aP clP h0 n0 Z0 S_P Ar_P sz_P tab_P) hZ (hw _ (List.mem_of_getElem? (i := 52) rfl)) (hw _ (List.mem_of_getElem? (i := 51) rfl)) (by decide) (by decide)) (g := (mkF m 135 #[.val (.ref a1), .val (.ref ar), .val (.int (0 : Int32)), .val (.int (3 : Int32)), .val (.int (1 : Int32)), .val (.int (-1 : Int32)), .val (.int (1 : Int32)), .val (.int pd), .val (.int (3 : Int32)), .val (.int (1 : Int32)), .val (.int c1), .val (.int c1)] [(.int c1)])) rfl (by rw [hml]; rfl) (argsL := [(.int c1)]) (rest := []) (lenOf own_pd2 rfl) rfl (by show 2 * 0 + _ ≤ _; exact Nat.le_of_eq rfl) (hb hby d4_135) (fun _ _ => ⟨rfl, e28, (by decide : 0 + 0 ≤ _), (by decide : 0 + 0 ≤ _)⟩)
          dsimp only [Pt.U, Pt.locs, Pt.cells, Pt.slots] at X29 l29 y29 z29 st29 hQ29
          subst l29 y29 z29
          obtain ⟨rfl, N29q, e29⟩ := hQ29
          have N29 := Fr.app N28 N29q
          refine own_go st29 ?_
          show own_G p.tables e below T29 (mkF m 138 #[.val (.ref a1), .val (.ref ar), .val (.int (0 : Int32)), .val (.int (3 : Int32)), .val (.int (1 : Int32)), .val (.int (-1 : Int32)), .val (.int (1 : Int32)), .val (.int pd), .val (.int (3 : Int32)), .val (.int (1 : Int32)), .val (.int c1), .val (.int c1)] [(.int (own_isp c1))]) _
          by_cases hc138_30 : (own_isp c1) = (0 : Int32)
          · skip
            refine own_go (fun t_ k_ => XS.ifNo X29.here hx rfl (hb hby d4_138) rfl ((if0 _ _).trans (teq hc138_30).2) k_) ?_
            show own_G p.tables e below T29 (mkF m 141 #[.val (.ref a1), .val (.ref ar), .val (.int (0 : Int32)), .val (.int (3 : Int32)), .val (.int (1 : Int32)), .val (.int (-1 : Int32)), .val (.int (1 : Int32)), .val (.int pd), .val (.int (3 : Int32)), .val (.int (1 : Int32)), .val (.int c1), .val (.int c1)] []) _
            refine own_go (fun t_ k_ => XS.iload X29.here hx rfl (hb hby d4_141) rfl k_) ?_
            show own_G p.tables e below T29 (mkF m 143 #[.val (.ref a1), .val (.ref ar), .val (.int (0 : Int32)), .val (.int (3 : Int32)), .val (.int (1 : Int32)), .val (.int (-1 : Int32)), .val (.int (1 : Int32)), .val (.int pd), .val (.int (3 : Int32)), .val (.int (1 : Int32)), .val (.int c1), .val (.int c1)] [(.int c1)]) _
            refine own_go (fun t_ k_ => XS.istore X29.here hx rfl (hb hby d4_143) rfl (l' := #[.val (.ref a1), .val (.ref ar), .val (.int (0 : Int32)), .val (.int (3 : Int32)), .val (.int (1 : Int32)), .val (.int c1), .val (.int (1 : Int32)), .val (.int pd), .val (.int (3 : Int32)), .val (.int (1 : Int32)), .val (.int c1), .val (.int c1)]) rfl k_) ?_
            show own_G p.tables e below T29 (mkF m 145 #[.val (.ref a1), .val (.ref ar), .val (.int (0 : Int32)), .val (.int (3 : Int32)), .val (.int (1 : Int32)), .val (.int c1), .val (.int (1 : Int32)), .val (.int pd), .val (.int (3 : Int32)), .val (.int (1 : Int32)), .val (.int c1), .val (.int c1)] []) _
            refine own_go (fun t_ k_ => XS.iinc X29.here hx rfl (hb hby d4_145) rfl (l' := #[.val (.ref a1), .val (.ref ar), .val (.int (0 : Int32)), .val (.int (3 : Int32)), .val (.int (1 : Int32)), .val (.int c1), .val (.int (1 : Int32)), .val (.int pd), .val (.int (3 : Int32)), .val (.int (2 : Int32)), .val (.int c1), .val (.int c1)]) rfl k_) ?_
            show own_G p.tables e below T29 (mkF m 148 #[.val (.ref a1), .val (.ref ar), .val (.int (0 : Int32)), .val (.int (3 : Int32)), .val (.int (1 : Int32)), .val (.int c1), .val (.int (1 : Int32)), .val (.int pd), .val (.int (3 : Int32)), .val (.int (2 : Int32)), .val (.int c1), .val (.int c1)] []) _
            refine own_go (fun t_ k_ => XS.goto X29.here hx rfl (pc0 := 148) (pc' := 43) rfl (hb hby d4_148) (by decide) (by decide) k_) ?_
            show own_G p.tables e below T29 (mkF m 43 #[.val (.ref a1), .val (.ref ar), .val (.int (0 : Int32)), .val (.int (3 : Int32)), .val (.int (1 : Int32)), .val (.int c1), .val (.int (1 : Int32)), .val (.int pd), .val (.int (3 : Int32)), .val (.int (2 : Int32)), .val (.int c1), .val (.int c1)] []) _
            have hstep : own_step c1 st' pd = (c1, (1 : Int32), pd) := by unfold own_step; rw [if_pos hc67_25, if_pos hc98_26, if_pos hc138_30]
            rw [hstep] at hrun
            exact turn2 _ _ _ _ _ _ _ X29 e29 N29 (One.val rfl) (One.val rfl) (Or.inr rfl) hrun
          · skip
            refine own_go (fun t_ k_ => XS.ifYes X29.here hx rfl (pc0 := 138) (pc' := 145) rfl (hb hby d4_138) rfl ((if0 _ _).trans (feq hc138_30).2) (by decide) (by decide) k_) ?_
            show own_G p.tables e below T29 (mkF m 145 #[.val (.ref a1), .val (.ref ar), .val (.int (0 : Int32)), .val (.int (3 : Int32)), .val (.int (1 : Int32)), .val (.int (-1 : Int32)), .val (.int (1 : Int32)), .val (.int pd), .val (.int (3 : Int32)), .val (.int (1 : Int32)), .val (.int c1), .val (.int c1)] []) _
            refine own_go (fun t_ k_ => XS.iinc X29.here hx rfl (hb hby d4_145) rfl (l' := #[.val (.ref a1), .val (.ref ar), .val (.int (0 : Int32)), .val (.int (3 : Int32)), .val (.int (1 : Int32)), .val (.int (-1 : Int32)), .val (.int (1 : Int32)), .val (.int pd), .val (.int (3 : Int32)), .val (.int (2 : Int32)), .val (.int c1), .val (.int c1)]) rfl k_) ?_
            show own_G p.tables e below T29 (mkF m 148 #[.val (.ref a1), .val (.ref ar), .val (.int (0 : Int32)), .val (.int (3 : Int32)), .val (.int (1 : Int32)), .val (.int (-1 : Int32)), .val (.int (1 : Int32)), .val (.int pd), .val (.int (3 : Int32)), .val (.int (2 : Int32)), .val (.int c1), .val (.int c1)] []) _
            refine own_go (fun t_ k_ => XS.goto X29.here hx rfl (pc0 := 148) (pc' := 43) rfl (hb hby d4_148) (by decide) (by decide) k_) ?_
            show own_G p.tables e below T29 (mkF m 43 #[.val (.ref a1), .val (.ref ar), .val (.int (0 : Int32)), .val (.int (3 : Int32)), .val (.int (1 : Int32)), .val (.int (-1 : Int32)), .val (.int (1 : Int32)), .val (.int pd), .val (.int (3 : Int32)), .val (.int (2 : Int32)), .val (.int c1), .val (.int c1)] []) _
            have hstep : own_step c1 st' pd = ((-1 : Int32), (1 : Int32), pd) := by unfold own_step; rw [if_pos hc67_25, if_pos hc98_26, if_neg hc138_30]
            rw [hstep] at hrun
            exact turn2 _ _ _ _ _ _ _ X29 e29 N29 (One.val rfl) (One.val rfl) (Or.inr rfl) hrun
        · skip
          refine own_go (fun t_ k_ => XS.icmpNo X24.here hx rfl (hb hby d4_98) rfl (feq hc98_26).1 k_) ?_
          show own_G p.tables e below T24 (mkF m 101 #[.val (.ref a1), .val (.ref ar), .val (.int (0 : Int32)), .val (.int (3 : Int32)), .val (.int (1 : Int32)), .val (.int (-1 : Int32)), .val (.int st'), .val (.int pd), .val (.int (3 : Int32)), .val (.int (1 : Int32)), .val (.int c1), s11] []) _
          refine own_go (fun t_ k_ => XS.iload X24.here hx rfl (hb hby d4_101) rfl k_) ?_
          show own_G p.tables e below T24 (mkF m 103 #[.val (.ref a1), .val (.ref ar), .val (.int (0 : Int32)), .val (.int (3 : Int32)), .val (.int (1 : Int32)), .val (.int (-1 : Int32)), .val (.int st'), .val (.int pd), .val (.int (3 : Int32)), .val (.int (1 : Int32)), .val (.int c1), s11] [(.int pd)]) _
          refine own_go (fun t_ k_ => XS.istore X24.here hx rfl (hb hby d4_103) rfl (l' := #[.val (.ref a1), .val (.ref ar), .val (.int (0 : Int32)), .val (.int (3 : Int32)), .val (.int (1 : Int32)), .val (.int pd), .val (.int st'), .val (.int pd), .val (.int (3 : Int32)), .val (.int (1 : Int32)), .val (.int c1), s11]) rfl k_) ?_
          show own_G p.tables e below T24 (mkF m 105 #[.val (.ref a1), .val (.ref ar), .val (.int (0 : Int32)), .val (.int (3 : Int32)), .val (.int (1 : Int32)), .val (.int pd), .val (.int st'), .val (.int pd), .val (.int (3 : Int32)), .val (.int (1 : Int32)), .val (.int c1), s11] []) _
          refine own_go (fun t_ k_ => XS.goto X24.here hx rfl (pc0 := 105) (pc' := 145) rfl (hb hby d4_105) (by decide) (by decide) k_) ?_
          show own_G p.tables e below T24 (mkF m 145 #[.val (.ref a1), .val (.ref ar), .val (.int (0 : Int32)), .val (.int (3 : Int32)), .val (.int (1 : Int32)), .val (.int pd), .val (.int st'), .val (.int pd), .val (.int (3 : Int32)), .val (.int (1 : Int32)), .val (.int c1), s11] []) _
          refine own_go (fun t_ k_ => XS.iinc X24.here hx rfl (hb hby d4_145) rfl (l' := #[.val (.ref a1), .val (.ref ar), .val (.int (0 : Int32)), .val (.int (3 : Int32)), .val (.int (1 : Int32)), .val (.int pd), .val (.int st'), .val (.int pd), .val (.int (3 : Int32)), .val (.int (2 : Int32)), .val (.int c1), s11]) rfl k_) ?_
          show own_G p.tables e below T24 (mkF m 148 #[.val (.ref a1), .val (.ref ar), .val (.int (0 : Int32)), .val (.int (3 : Int32)), .val (.int (1 : Int32)), .val (.int pd), .val (.int st'), .val (.int pd), .val (.int (3 : Int32)), .val (.int (2 : Int32)), .val (.int c1), s11] []) _
          refine own_go (fun t_ k_ => XS.goto X24.here hx rfl (pc0 := 148) (pc' := 43) rfl (hb hby d4_148) (by decide) (by decide) k_) ?_
          show own_G p.tables e below T24 (mkF m 43 #[.val (.ref a1), .val (.ref ar), .val (.int (0 : Int32)), .val (.int (3 : Int32)), .val (.int (1 : Int32)), .val (.int pd), .val (.int st'), .val (.int pd), .val (.int (3 : Int32)), .val (.int (2 : Int32)), .val (.int c1), s11] []) _
          have hstep : own_step c1 st' pd = (pd, st', pd) := by unfold own_step; rw [if_pos hc67_25, if_neg hc98_26]
          rw [hstep] at hrun
          exact turn2 _ _ _ _ _ _ _ X24 e24 N24 (One.val rfl) h11 hs hrun
      · skip
        refine own_go (fun t_ k_ => XS.ifNo X24.here hx rfl (hb hby d4_67) rfl ((if0 _ _).trans (feq hc67_25).1) k_) ?_
        show own_G p.tables e below T24 (mkF m 70 #[.val (.ref a1), .val (.ref ar), .val (.int (0 : Int32)), .val (.int (3 : Int32)), .val (.int (1 : Int32)), .val (.int (-1 : Int32)), .val (.int st'), .val (.int pd), .val (.int (3 : Int32)), .val (.int (1 : Int32)), .val (.int c1), s11] []) _
        refine own_go (fun t_ k_ => XS.iload X24.here hx rfl (hb hby d4_70) rfl k_) ?_
        show own_G p.tables e below T24 (mkF m 72 #[.val (.ref a1), .val (.ref ar), .val (.int (0 : Int32)), .val (.int (3 : Int32)), .val (.int (1 : Int32)), .val (.int (-1 : Int32)), .val (.int st'), .val (.int pd), .val (.int (3 : Int32)), .val (.int (1 : Int32)), .val (.int c1), s11] [(.int st')]) _
        by_cases hc72_31 : st' = (0 : Int32)
        · skip
          refine own_go (fun t_ k_ => XS.ifYes X24.here hx rfl (pc0 := 72) (pc' := 145) rfl (hb hby d4_72) rfl ((if0 _ _).trans (teq hc72_31).1) (by decide) (by decide) k_) ?_
          show own_G p.tables e below T24 (mkF m 145 #[.val (.ref a1), .val (.ref ar), .val (.int (0 : Int32)), .val (.int (3 : Int32)), .val (.int (1 : Int32)), .val (.int (-1 : Int32)), .val (.int st'), .val (.int pd), .val (.int (3 : Int32)), .val (.int (1 : Int32)), .val (.int c1), s11] []) _
          refine own_go (fun t_ k_ => XS.iinc X24.here hx rfl (hb hby d4_145) rfl (l' := #[.val (.ref a1), .val (.ref ar), .val (.int (0 : Int32)), .val (.int (3 : Int32)), .val (.int (1 : Int32)), .val (.int (-1 : Int32)), .val (.int st'), .val (.int pd), .val (.int (3 : Int32)), .val (.int (2 : Int32)), .val (.int c1), s11]) rfl k_) ?_
          show own_G p.tables e below T24 (mkF m 148 #[.val (.ref a1), .val (.ref ar), .val (.int (0 : Int32)), .val (.int (3 : Int32)), .val (.int (1 : Int32)), .val (.int (-1 : Int32)), .val (.int st'), .val (.int pd), .val (.int (3 : Int32)), .val (.int (2 : Int32)), .val (.int c1), s11] []) _
          refine own_go (fun t_ k_ => XS.goto X24.here hx rfl (pc0 := 148) (pc' := 43) rfl (hb hby d4_148) (by decide) (by decide) k_) ?_
          show own_G p.tables e below T24 (mkF m 43 #[.val (.ref a1), .val (.ref ar), .val (.int (0 : Int32)), .val (.int (3 : Int32)), .val (.int (1 : Int32)), .val (.int (-1 : Int32)), .val (.int st'), .val (.int pd), .val (.int (3 : Int32)), .val (.int (2 : Int32)), .val (.int c1), s11] []) _
          have hstep : own_step c1 st' pd = ((-1 : Int32), st', pd) := by unfold own_step; rw [if_neg hc67_25, if_pos hc72_31]
          rw [hstep] at hrun
          exact turn2 _ _ _ _ _ _ _ X24 e24 N24 (One.val rfl) h11 hs hrun
        · skip
          refine own_go (fun t_ k_ => XS.ifNo X24.here hx rfl (hb hby d4_72) rfl ((if0 _ _).trans (feq hc72_31).1) k_) ?_
          show own_G p.tables e below T24 (mkF m 75 #[.val (.ref a1), .val (.ref ar), .val (.int (0 : Int32)), .val (.int (3 : Int32)), .val (.int (1 : Int32)), .val (.int (-1 : Int32)), .val (.int st'), .val (.int pd), .val (.int (3 : Int32)), .val (.int (1 : Int32)), .val (.int c1), s11] []) _
          refine own_go (fun t_ k_ => XS.iload X24.here hx rfl (hb hby d4_75) rfl k_) ?_
          show own_G p.tables e below T24 (mkF m 77 #[.val (.ref a1), .val (.ref ar), .val (.int (0 : Int32)), .val (.int (3 : Int32)), .val (.int (1 : Int32)), .val (.int (-1 : Int32)), .val (.int st'), .val (.int pd), .val (.int (3 : Int32)), .val (.int (1 : Int32)), .val (.int c1), s11] [(.int c1)]) _
          refine own_go (fun t_ k_ => XS.bipush X24.here hx rfl (hb hby d4_77) k_) ?_
          show own_G p.tables e below T24 (mkF m 79 #[.val (.ref a1), .val (.ref ar), .val (.int (0 : Int32)), .val (.int (3 : Int32)), .val (.int (1 : Int32)), .val (.int (-1 : Int32)), .val (.int st'), .val (.int pd), .val (.int (3 : Int32)), .val (.int (1 : Int32)), .val (.int c1), s11] [(.int (32 : Int32)), (.int c1)]) _
          by_cases hc79_32 : c1 = (32 : Int32)
          · skip
            refine own_go (fun t_ k_ => XS.icmpYes X24.here hx rfl (pc0 := 79) (pc' := 145) rfl (hb hby d4_79) rfl (teq hc79_32).1 (by decide) (by decide) k_) ?_
            show own_G p.tables e below T24 (mkF m 145 #[.val (.ref a1), .val (.ref ar), .val (.int (0 : Int32)), .val (.int (3 : Int32)), .val (.int (1 : Int32)), .val (.int (-1 : Int32)), .val (.int st'), .val (.int pd), .val (.int (3 : Int32)), .val (.int (1 : Int32)), .val (.int c1), s11] []) _
            refine own_go (fun t_ k_ => XS.iinc X24.here hx rfl (hb hby d4_145) rfl (l' := #[.val (.ref a1), .val (.ref ar), .val (.int (0 : Int32)), .val (.int (3 : Int32)), .val (.int (1 : Int32)), .val (.int (-1 : Int32)), .val (.int st'), .val (.int pd), .val (.int (3 : Int32)), .val (.int (2 : Int32)), .val (.int c1), s11]) rfl k_) ?_
            show own_G p.tables e below T24 (mkF m 148 #[.val (.ref a1), .val (.ref ar), .val (.int (0 : Int32)), .val (.int (3 : Int32)), .val (.int (1 : Int32)), .val (.int (-1 : Int32)), .val (.int st'), .val (.int pd), .val (.int (3 : Int32)), .val (.int (2 : Int32)), .val (.int c1), s11] []) _
            refine own_go (fun t_ k_ => XS.goto X24.here hx rfl (pc0 := 148) (pc' := 43) rfl (hb hby d4_148) (by decide) (by decide) k_) ?_
            show own_G p.tables e below T24 (mkF m 43 #[.val (.ref a1), .val (.ref ar), .val (.int (0 : Int32)), .val (.int (3 : Int32)), .val (.int (1 : Int32)), .val (.int (-1 : Int32)), .val (.int st'), .val (.int pd), .val (.int (3 : Int32)), .val (.int (2 : Int32)), .val (.int c1), s11] []) _
            have hstep : own_step c1 st' pd = ((-1 : Int32), st', pd) := by unfold own_step; rw [if_neg hc67_25, if_neg hc72_31, if_pos hc79_32]
            rw [hstep] at hrun
            exact turn2 _ _ _ _ _ _ _ X24 e24 N24 (One.val rfl) h11 hs hrun
          · skip
            refine own_go (fun t_ k_ => XS.icmpNo X24.here hx rfl (hb hby d4_79) rfl (feq hc79_32).1 k_) ?_
            show own_G p.tables e below T24 (mkF m 82 #[.val (.ref a1), .val (.ref ar), .val (.int (0 : Int32)), .val (.int (3 : Int32)), .val (.int (1 : Int32)), .val (.int (-1 : Int32)), .val (.int st'), .val (.int pd), .val (.int (3 : Int32)), .val (.int (1 : Int32)), .val (.int c1), s11] []) _
            refine own_go (fun t_ k_ => XS.iload X24.here hx rfl (hb hby d4_82) rfl k_) ?_
            show own_G p.tables e below T24 (mkF m 84 #[.val (.ref a1), .val (.ref ar), .val (.int (0 : Int32)), .val (.int (3 : Int32)), .val (.int (1 : Int32)), .val (.int (-1 : Int32)), .val (.int st'), .val (.int pd), .val (.int (3 : Int32)), .val (.int (1 : Int32)), .val (.int c1), s11] [(.int pd)]) _
            refine own_go (fun t_ k_ => XS.iconst X24.here hx rfl (hb hby d4_84) k_) ?_
            show own_G p.tables e below T24 (mkF m 85 #[.val (.ref a1), .val (.ref ar), .val (.int (0 : Int32)), .val (.int (3 : Int32)), .val (.int (1 : Int32)), .val (.int (-1 : Int32)), .val (.int st'), .val (.int pd), .val (.int (3 : Int32)), .val (.int (1 : Int32)), .val (.int c1), s11] [(.int (-1 : Int32)), (.int pd)]) _
            by_cases hc85_33 : pd = (-1 : Int32)
            · skip
              refine own_go (fun t_ k_ => XS.icmpNo X24.here hx rfl (hb hby d4_85) rfl (teq hc85_33).2 k_) ?_
              show own_G p.tables e below T24 (mkF m 88 #[.val (.ref a1), .val (.ref ar), .val (.int (0 : Int32)), .val (.int (3 : Int32)), .val (.int (1 : Int32)), .val (.int (-1 : Int32)), .val (.int st'), .val (.int pd), .val (.int (3 : Int32)), .val (.int (1 : Int32)), .val (.int c1), s11] []) _
              refine own_go (fun t_ k_ => XS.iload X24.here hx rfl (hb hby d4_88) rfl k_) ?_
              show own_G p.tables e below T24 (mkF m 90 #[.val (.ref a1), .val (.ref ar), .val (.int (0 : Int32)), .val (.int (3 : Int32)), .val (.int (1 : Int32)), .val (.int (-1 : Int32)), .val (.int st'), .val (.int pd), .val (.int (3 : Int32)), .val (.int (1 : Int32)), .val (.int c1), s11] [(.int c1)]) _
              refine own_go (fun t_ k_ => XS.istore X24.here hx rfl (hb hby d4_90) rfl (l' := #[.val (.ref a1), .val (.ref ar), .val (.int (0 : Int32)), .val (.int (3 : Int32)), .val (.int (1 : Int32)), .val (.int (-1 : Int32)), .val (.int st'), .val (.int c1), .val (.int (3 : Int32)), .val (.int (1 : Int32)), .val (.int c1), s11]) rfl k_) ?_
              show own_G p.tables e below T24 (mkF m 92 #[.val (.ref a1), .val (.ref ar), .val (.int (0 : Int32)), .val (.int (3 : Int32)), .val (.int (1 : Int32)), .val (.int (-1 : Int32)), .val (.int st'), .val (.int c1), .val (.int (3 : Int32)), .val (.int (1 : Int32)), .val (.int c1), s11] []) _
              refine own_go (fun t_ k_ => XS.goto X24.here hx rfl (pc0 := 92) (pc' := 145) rfl (hb hby d4_92) (by decide) (by decide) k_) ?_
              show own_G p.tables e below T24 (mkF m 145 #[.val (.ref a1), .val (.ref ar), .val (.int (0 : Int32)), .val (.int (3 : Int32)), .val (.int (1 : Int32)), .val (.int (-1 : Int32)), .val (.int st'), .val (.int c1), .val (.int (3 : Int32)), .val (.int (1 : Int32)), .val (.int c1), s11] []) _
              refine own_go (fun t_ k_ => XS.iinc X24.here hx rfl (hb hby d4_145) rfl (l' := #[.val (.ref a1), .val (.ref ar), .val (.int (0 : Int32)), .val (.int (3 : Int32)), .val (.int (1 : Int32)), .val (.int (-1 : Int32)), .val (.int st'), .val (.int c1), .val (.int (3 : Int32)), .val (.int (2 : Int32)), .val (.int c1), s11]) rfl k_) ?_
              show own_G p.tables e below T24 (mkF m 148 #[.val (.ref a1), .val (.ref ar), .val (.int (0 : Int32)), .val (.int (3 : Int32)), .val (.int (1 : Int32)), .val (.int (-1 : Int32)), .val (.int st'), .val (.int c1), .val (.int (3 : Int32)), .val (.int (2 : Int32)), .val (.int c1), s11] []) _
              refine own_go (fun t_ k_ => XS.goto X24.here hx rfl (pc0 := 148) (pc' := 43) rfl (hb hby d4_148) (by decide) (by decide) k_) ?_
              show own_G p.tables e below T24 (mkF m 43 #[.val (.ref a1), .val (.ref ar), .val (.int (0 : Int32)), .val (.int (3 : Int32)), .val (.int (1 : Int32)), .val (.int (-1 : Int32)), .val (.int st'), .val (.int c1), .val (.int (3 : Int32)), .val (.int (2 : Int32)), .val (.int c1), s11] []) _
              have hstep : own_step c1 st' pd = ((-1 : Int32), st', c1) := by unfold own_step; rw [if_neg hc67_25, if_neg hc72_31, if_neg hc79_32, if_pos hc85_33]
              rw [hstep] at hrun
              exact turn2 _ _ _ _ _ _ _ X24 e24 N24 (One.val rfl) h11 hs hrun
            · skip
              refine own_go (fun t_ k_ => XS.icmpYes X24.here hx rfl (pc0 := 85) (pc' := 145) rfl (hb hby d4_85) rfl (feq hc85_33).2 (by decide) (by decide) k_) ?_
              show own_G p.tables e below T24 (mkF m 145 #[.val (.ref a1), .val (.ref ar), .val (.int (0 : Int32)), .val (.int (3 : Int32)), .val (.int (1 : Int32)), .val (.int (-1 : Int32)), .val (.int st'), .val (.int pd), .val (.int (3 : Int32)), .val (.int (1 : Int32)), .val (.int c1), s11] []) _
              refine own_go (fun t_ k_ => XS.iinc X24.here hx rfl (hb hby d4_145) rfl (l' := #[.val (.ref a1), .val (.ref ar), .val (.int (0 : Int32)), .val (.int (3 : Int32)), .val (.int (1 : Int32)), .val (.int (-1 : Int32)), .val (.int st'), .val (.int pd), .val (.int (3 : Int32)), .val (.int (2 : Int32)), .val (.int c1), s11]) rfl k_) ?_
              show own_G p.tables e below T24 (mkF m 148 #[.val (.ref a1), .val (.ref ar), .val (.int (0 : Int32)), .val (.int (3 : Int32)), .val (.int (1 : Int32)), .val (.int (-1 : Int32)), .val (.int st'), .val (.int pd), .val (.int (3 : Int32)), .val (.int (2 : Int32)), .val (.int c1), s11] []) _
              refine own_go (fun t_ k_ => XS.goto X24.here hx rfl (pc0 := 148) (pc' := 43) rfl (hb hby d4_148) (by decide) (by decide) k_) ?_
              show own_G p.tables e below T24 (mkF m 43 #[.val (.ref a1), .val (.ref ar), .val (.int (0 : Int32)), .val (.int (3 : Int32)), .val (.int (1 : Int32)), .val (.int (-1 : Int32)), .val (.int st'), .val (.int pd), .val (.int (3 : Int32)), .val (.int (2 : Int32)), .val (.int c1), s11] []) _
              have hstep : own_step c1 st' pd = ((-1 : Int32), st', pd) := by unfold own_step; rw [if_neg hc67_25, if_neg hc72_31, if_neg hc79_32, if_neg hc85_33]
              rw [hstep] at hrun
              exact turn2 _ _ _ _ _ _ _ X24 e24 N24 (One.val rfl) h11 hs hrun
    · rw [own_run_out _ _ hr1] at hrun
      show own_G p.tables e below Tt (mkF m 43 #[.val (.ref a1), .val (.ref ar), .val (.int (0 : Int32)), .val (.int (3 : Int32)), .val (.int (1 : Int32)), .val (.int r), .val (.int st'), .val (.int pd), .val (.int (3 : Int32)), .val (.int (1 : Int32)), s10, s11] []) _
      refine own_go (fun t_ k_ => XS.iload Xt.here hx rfl (hb hby d4_43) rfl k_) ?_
      show own_G p.tables e below Tt (mkF m 45 #[.val (.ref a1), .val (.ref ar), .val (.int (0 : Int32)), .val (.int (3 : Int32)), .val (.int (1 : Int32)), .val (.int r), .val (.int st'), .val (.int pd), .val (.int (3 : Int32)), .val (.int (1 : Int32)), s10, s11] [(.int (1 : Int32))]) _
      refine own_go (fun t_ k_ => XS.iload Xt.here hx rfl (hb hby d4_45) rfl k_) ?_
      show own_G p.tables e below Tt (mkF m 47 #[.val (.ref a1), .val (.ref ar), .val (.int (0 : Int32)), .val (.int (3 : Int32)), .val (.int (1 : Int32)), .val (.int r), .val (.int st'), .val (.int pd), .val (.int (3 : Int32)), .val (.int (1 : Int32)), s10, s11] [(.int (3 : Int32)), (.int (1 : Int32))]) _
      refine own_go (fun t_ k_ => XS.icmpNo Xt.here hx rfl (hb hby d4_47) rfl (tlt (by decide : ((1 : Int32) < (3 : Int32)))).2.1 k_) ?_
      show own_G p.tables e below Tt (mkF m 50 #[.val (.ref a1), .val (.ref ar), .val (.int (0 : Int32)), .val (.int (3 : Int32)), .val (.int (1 : Int32)), .val (.int r), .val (.int st'), .val (.int pd), .val (.int (3 : Int32)), .val (.int (1 : Int32)), s10, s11] []) _
      refine own_go (fun t_ k_ => XS.iload Xt.here hx rfl (hb hby d4_50) rfl k_) ?_
      show own_G p.tables e below Tt (mkF m 52 #[.val (.ref a1), .val (.ref ar), .val (.int (0 : Int32)), .val (.int (3 : Int32)), .val (.int (1 : Int32)), .val (.int r), .val (.int st'), .val (.int pd), .val (.int (3 : Int32)), .val (.int (1 : Int32)), s10, s11] [(.int r)]) _
      refine own_go (fun t_ k_ => XS.iconst Xt.here hx rfl (hb hby d4_52) k_) ?_
      show own_G p.tables e below Tt (mkF m 53 #[.val (.ref a1), .val (.ref ar), .val (.int (0 : Int32)), .val (.int (3 : Int32)), .val (.int (1 : Int32)), .val (.int r), .val (.int st'), .val (.int pd), .val (.int (3 : Int32)), .val (.int (1 : Int32)), s10, s11] [(.int (-1 : Int32)), (.int r)]) _
      refine own_go (fun t_ k_ => XS.icmpYes Xt.here hx rfl (pc0 := 53) (pc' := 151) rfl (hb hby d4_53) rfl (feq hr1).2 (by decide) (by decide) k_) ?_
      show own_G p.tables e below Tt (mkF m 151 #[.val (.ref a1), .val (.ref ar), .val (.int (0 : Int32)), .val (.int (3 : Int32)), .val (.int (1 : Int32)), .val (.int r), .val (.int st'), .val (.int pd), .val (.int (3 : Int32)), .val (.int (1 : Int32)), s10, s11] []) _
      exact exit _ _ _ _ _ _ _ _ Xt et Nt h10 h11 hs hrun
  have turn0 : ∀ (r st' pd : Int32) (s10 s11 : Slot) (Tt : State) (locs : List Loc), Stand p l e ({ frames := 3, cells := 0, slots := 0, locals := 42 } : Room) s m #[(.ref a1), (.ref ar), (.int (0 : Int32)), (.int (3 : Int32))] below meth c Tt locs 0 0 → Tt.heap = h0 → Fr n0 locs → One s10 → One s11 → (st' = 0 ∨ st' = 1) → (own_run [c0, c1, c2] (R1, S1, D1)) = own_run [c0, c1, c2] (r, st', pd) → own_G p.tables e below Tt (mkF m 43 #[.val (.ref a1), .val (.ref ar), .val (.int (0 : Int32)), .val (.int (3 : Int32)), .val (.int (1 : Int32)), .val (.int r), .val (.int st'), .val (.int pd), .val (.int (3 : Int32)), .val (.int (0 : Int32)), s10, s11] []) (own_P below s (Q4n3d2 Z a1 ar aR aS aD kR kS kD R0 R1 S0 S1 D0 D1 ka c0 c1 c2 aP clP h0 n0) (({ frames := 3, cells := 0, slots := 0, locals := 42 } : Room)).cells (({ frames := 3, cells := 0, slots := 0, locals := 42 } : Room)).slots) := by
    intro r st' pd s10 s11 Tt locs Xt et Nt h10 h11 hs hrun
    by_cases hr1 : r = -1
    · subst hr1
      rw [own_run_in] at hrun
      show own_G p.tables e below Tt (mkF m 43 #[.val (.ref a1), .val (.ref ar), .val (.int (0 : Int32)), .val (.int (3 : Int32)), .val (.int (1 : Int32)), .val (.int (-1 : Int32)), .val (.int st'), .val (.int pd), .val (.int (3 : Int32)), .val (.int (0 : Int32)), s10, s11] []) _
      refine own_go (fun t_ k_ => XS.iload Xt.here hx rfl (hb hby d4_43) rfl k_) ?_
      show own_G p.tables e below Tt (mkF m 45 #[.val (.ref a1), .val (.ref ar), .val (.int (0 : Int32)), .val (.int (3 : Int32)), .val (.int (1 : Int32)), .val (.int (-1 : Int32)), .val (.int st'), .val (.int pd), .val (.int (3 : Int32)), .val (.int (0 : Int32)), s10, s11] [(.int (0 : Int32))]) _
      refine own_go (fun t_ k_ => XS.iload Xt.here hx rfl (hb hby d4_45) rfl k_) ?_
      show own_G p.tables e below Tt (mkF m 47 #[.val (.ref a1), .val (.ref ar), .val (.int (0 : Int32)), .val (.int (3 : Int32)), .val (.int (1 : Int32)), .val (.int (-1 : Int32)), .val (.int st'), .val (.int pd), .val (.int (3 : Int32)), .val (.int (0 : Int32)), s10, s11] [(.int (3 : Int32)), (.int (0 : Int32))]) _
      refine own_go (fun t_ k_ => XS.icmpNo Xt.here hx rfl (hb hby d4_47) rfl (tlt (by decide : ((0 : Int32) < (3 : Int32)))).2.1 k_) ?_
      show own_G p.tables e below Tt (mkF m 50 #[.val (.ref a1), .val (.ref ar), .val (.int (0 : Int32)), .val (.int (3 : Int32)), .val (.int (1 : Int32)), .val (.int (-1 : Int32)), .val (.int st'), .val (.int pd), .val (.int (3 : Int32)), .val (.int (0 : Int32)), s10, s11] []) _
      refine own_go (fun t_ k_ => XS.iload Xt.here hx rfl (hb hby d4_50) rfl k_) ?_
      show own_G p.tables e below Tt (mkF m 52 #[.val (.ref a1), .val (.ref ar), .val (.int (0 : Int32)), .val (.int (3 : Int32)), .val (.int (1 : Int32)), .val (.int (-1 : Int32)), .val (.int st'), .val (.int pd), .val (.int (3 : Int32)), .val (.int (0 : Int32)), s10, s11] [(.int (-1 : Int32))]) _
      refine own_go (fun t_ k_ => XS.iconst Xt.here hx rfl (hb hby d4_52) k_) ?_
      show own_G p.tables e below Tt (mkF m 53 #[.val (.ref a1), .val (.ref ar), .val (.int (0 : Int32)), .val (.int (3 : Int32)), .val (.int (1 : Int32)), .val (.int (-1 : Int32)), .val (.int st'), .val (.int pd), .val (.int (3 : Int32)), .val (.int (0 : Int32)), s10, s11] [(.int (-1 : Int32)), (.int (-1 : Int32))]) _
      refine own_go (fun t_ k_ => XS.icmpNo Xt.here hx rfl (hb hby d4_53) rfl (teq (by decide : ((-1 : Int32) = (-1 : Int32)))).2 k_) ?_
      show own_G p.tables e below Tt (mkF m 56 #[.val (.ref a1), .val (.ref ar), .val (.int (0 : Int32)), .val (.int (3 : Int32)), .val (.int (1 : Int32)), .val (.int (-1 : Int32)), .val (.int st'), .val (.int pd), .val (.int (3 : Int32)), .val (.int (0 : Int32)), s10, s11] []) _
      refine own_go (fun t_ k_ => XS.aloadN Xt.here hx rfl (hb hby d4_56) rfl rfl k_) ?_
      show own_G p.tables e below Tt (mkF m 57 #[.val (.ref a1), .val (.ref ar), .val (.int (0 : Int32)), .val (.int (3 : Int32)), .val (.int (1 : Int32)), .val (.int (-1 : Int32)), .val (.int st'), .val (.int pd), .val (.int (3 : Int32)), .val (.int (0 : Int32)), s10, s11] [(.ref ar)]) _
      refine own_go (fun t_ k_ => XS.iload Xt.here hx rfl (hb hby d4_57) rfl k_) ?_
      show own_G p.tables e below Tt (mkF m 59 #[.val (.ref a1), .val (.ref ar), .val (.int (0 : Int32)), .val (.int (3 : Int32)), .val (.int (1 : Int32)), .val (.int (-1 : Int32)), .val (.int st'), .val (.int pd), .val (.int (3 : Int32)), .val (.int (0 : Int32)), s10, s11] [(.int (0 : Int32)), (.ref ar)]) _
      refine own_go (fun t_ k_ => Xt.caload hx (j := (0 : Int32)) (v := (.int c0)) (by rw [et]; exact ArA.1) (State.isArrayOf_alike hZ.alike ArA.2.1) ArA.2.2 hinA0 hatA0 (g := (mkF m 59 #[.val (.ref a1), .val (.ref ar), .val (.int (0 : Int32)), .val (.int (3 : Int32)), .val (.int (1 : Int32)), .val (.int (-1 : Int32)), .val (.int st'), .val (.int pd), .val (.int (3 : Int32)), .val (.int (0 : Int32)), s10, s11] [(.int (0 : Int32)), (.ref ar)])) rfl rfl (hb hby d4_59) _ k_) ?_
      show own_G p.tables e below Tt (mkF m 60 #[.val (.ref a1), .val (.ref ar), .val (.int (0 : Int32)), .val (.int (3 : Int32)), .val (.int (1 : Int32)), .val (.int (-1 : Int32)), .val (.int st'), .val (.int pd), .val (.int (3 : Int32)), .val (.int (0 : Int32)), s10, s11] [(.int c0)]) _
      refine own_go (fun t_ k_ => XS.istoreS Xt.here hx rfl (hb hby d4_60) rfl rfl h10 k_) ?_
      show own_G p.tables e below Tt (mkF m 62 #[.val (.ref a1), .val (.ref ar), .val (.int (0 : Int32)), .val (.int (3 : Int32)), .val (.int (1 : Int32)), .val (.int (-1 : Int32)), .val (.int st'), .val (.int pd), .val (.int (3 : Int32)), .val (.int (0 : Int32)), .val (.int c0), s11] []) _
      refine own_go (fun t_ k_ => XS.iload Xt.here hx rfl (hb hby d4_62) rfl k_) ?_
      show own_G p.tables e below Tt (mkF m 64 #[.val (.ref a1), .val (.ref ar), .val (.int (0 : Int32)), .val (.int (3 : Int32)), .val (.int (1 : Int32)), .val (.int (-1 : Int32)), .val (.int st'), .val (.int pd), .val (.int (3 : Int32)), .val (.int (0 : Int32)), .val (.int c0), s11] [(.int c0)]) _
      obtain ⟨_, _, ⟨T34, L34, k34, n34⟩, -, X34, ⟨Lc34, hQ34, l34, y34, z34⟩, st34⟩ := Jvm.LawKit.callS Xt hx (y := (⟨"com/example/einzug/einzug/rules/XmlCharacters", "isSpace", "(I)Z"⟩ : MethodName)) hown (mvT hZ (hw _ (List.mem_of_getElem? (i := 30) rfl))) (mvT hZ (hw _ (List.mem_of_getElem? (i := 31) rfl))) (mvT hZ (hw _ (List.mem_of_getElem? (i := 32) rfl))) (mvT hZ (hw _ (List.mem_of_getElem? (i := 33) rfl))) (by decide) (backOf (W := 0) (rm5 l Z a0 hw [] c0 h0 n0 Z0) hZ (hw _ (List.mem_of_getElem? (i := 33) rfl)) (hw _ (List.mem_of_getElem? (i := 32) rfl)) (by decide) (by decide)) (g := (mkF m 64 #[.val (.ref a1), .val (.ref ar), .val (.int (0 : Int32)), .val (.int (3 : Int32)), .val (.int (1 : Int32)), .val (.int (-1 : Int32)), .val (.int st'), .val (.int pd), .val (.int (3 : Int32)), .val (.int (0 : Int32)), .val (.int c0), s11] [(.int c0)])) rfl (by rw [hml]; rfl) (argsL := [(.int c0)]) (rest := []) (lenOf own_pd2 rfl) rfl (by show 2 * 0 + _ ≤ _; exact Nat.le_of_eq rfl) (hb hby d4_64) (fun _ _ => ⟨rfl, et, (by decide : 0 + 0 ≤ _), (by decide : 0 + 0 ≤ _)⟩)
      dsimp only [Pt.U, Pt.locs, Pt.cells, Pt.slots] at X34 l34 y34 z34 st34 hQ34
      subst l34 y34 z34
      obtain ⟨rfl, N34q, e34⟩ := hQ34
      have N34 := Fr.app Nt N34q
      refine own_go st34 ?_
      show own_G p.tables e below T34 (mkF m 67 #[.val (.ref a1), .val (.ref ar), .val (.int (0 : Int32)), .val (.int (3 : Int32)), .val (.int (1 : Int32)), .val (.int (-1 : Int32)), .val (.int st'), .val (.int pd), .val (.int (3 : Int32)), .val (.int (0 : Int32)), .val (.int c0), s11] [(.int (own_sp c0))]) _
      by_cases hc67_35 : (own_sp c0) = (0 : Int32)
      · skip
        refine own_go (fun t_ k_ => XS.ifYes X34.here hx rfl (pc0 := 67) (pc' := 95) rfl (hb hby d4_67) rfl ((if0 _ _).trans (teq hc67_35).1) (by decide) (by decide) k_) ?_
        show own_G p.tables e below T34 (mkF m 95 #[.val (.ref a1), .val (.ref ar), .val (.int (0 : Int32)), .val (.int (3 : Int32)), .val (.int (1 : Int32)), .val (.int (-1 : Int32)), .val (.int st'), .val (.int pd), .val (.int (3 : Int32)), .val (.int (0 : Int32)), .val (.int c0), s11] []) _
        refine own_go (fun t_ k_ => XS.iload X34.here hx rfl (hb hby d4_95) rfl k_) ?_
        show own_G p.tables e below T34 (mkF m 97 #[.val (.ref a1), .val (.ref ar), .val (.int (0 : Int32)), .val (.int (3 : Int32)), .val (.int (1 : Int32)), .val (.int (-1 : Int32)), .val (.int st'), .val (.int pd), .val (.int (3 : Int32)), .val (.int (0 : Int32)), .val (.int c0), s11] [(.int pd)]) _
        refine own_go (fun t_ k_ => XS.iconst X34.here hx rfl (hb hby d4_97) k_) ?_
        show own_G p.tables e below T34 (mkF m 98 #[.val (.ref a1), .val (.ref ar), .val (.int (0 : Int32)), .val (.int (3 : Int32)), .val (.int (1 : Int32)), .val (.int (-1 : Int32)), .val (.int st'), .val (.int pd), .val (.int (3 : Int32)), .val (.int (0 : Int32)), .val (.int c0), s11] [(.int (-1 : Int32)), (.int pd)]) _
        by_cases hc98_36 : pd = (-1 : Int32)
        · skip
          refine own_go (fun t_ k_ => XS.icmpYes X34.here hx rfl (pc0 := 98) (pc' := 108) rfl (hb hby d4_98) rfl (teq hc98_36).1 (by decide) (by decide) k_) ?_
          show own_G p.tables e below T34 (mkF m 108 #[.val (.ref a1), .val (.ref ar), .val (.int (0 : Int32)), .val (.int (3 : Int32)), .val (.int (1 : Int32)), .val (.int (-1 : Int32)), .val (.int st'), .val (.int pd), .val (.int (3 : Int32)), .val (.int (0 : Int32)), .val (.int c0), s11] []) _
          refine own_go (fun t_ k_ => XS.iconst X34.here hx rfl (hb hby d4_108) k_) ?_
          show own_G p.tables e below T34 (mkF m 109 #[.val (.ref a1), .val (.ref ar), .val (.int (0 : Int32)), .val (.int (3 : Int32)), .val (.int (1 : Int32)), .val (.int (-1 : Int32)), .val (.int st'), .val (.int pd), .val (.int (3 : Int32)), .val (.int (0 : Int32)), .val (.int c0), s11] [(.int (1 : Int32))]) _
          refine own_go (fun t_ k_ => XS.istore X34.here hx rfl (hb hby d4_109) rfl (l' := #[.val (.ref a1), .val (.ref ar), .val (.int (0 : Int32)), .val (.int (3 : Int32)), .val (.int (1 : Int32)), .val (.int (-1 : Int32)), .val (.int (1 : Int32)), .val (.int pd), .val (.int (3 : Int32)), .val (.int (0 : Int32)), .val (.int c0), s11]) rfl k_) ?_
          show own_G p.tables e below T34 (mkF m 111 #[.val (.ref a1), .val (.ref ar), .val (.int (0 : Int32)), .val (.int (3 : Int32)), .val (.int (1 : Int32)), .val (.int (-1 : Int32)), .val (.int (1 : Int32)), .val (.int pd), .val (.int (3 : Int32)), .val (.int (0 : Int32)), .val (.int c0), s11] []) _
          refine own_go (fun t_ k_ => XS.aloadN X34.here hx rfl (hb hby d4_111) rfl rfl k_) ?_
          show own_G p.tables e below T34 (mkF m 112 #[.val (.ref a1), .val (.ref ar), .val (.int (0 : Int32)), .val (.int (3 : Int32)), .val (.int (1 : Int32)), .val (.int (-1 : Int32)), .val (.int (1 : Int32)), .val (.int pd), .val (.int (3 : Int32)), .val (.int (0 : Int32)), .val (.int c0), s11] [(.ref ar)]) _
          refine own_go (fun t_ k_ => XS.iload X34.here hx rfl (hb hby d4_112) rfl k_) ?_
          show own_G p.tables e below T34 (mkF m 114 #[.val (.ref a1), .val (.ref ar), .val (.int (0 : Int32)), .val (.int (3 : Int32)), .val (.int (1 : Int32)), .val (.int (-1 : Int32)), .val (.int (1 : Int32)), .val (.int pd), .val (.int (3 : Int32)), .val (.int (0 : Int32)), .val (.int c0), s11] [(.int (0 : Int32)), (.ref ar)]) _
          refine own_go (fun t_ k_ => XS.iload X34.here hx rfl (hb hby d4_114) rfl k_) ?_
          show own_G p.tables e below T34 (mkF m 116 #[.val (.ref a1), .val (.ref ar), .val (.int (0 : Int32)), .val (.int (3 : Int32)), .val (.int (1 : Int32)), .val (.int (-1 : Int32)), .val (.int (1 : Int32)), .val (.int pd), .val (.int (3 : Int32)), .val (.int (0 : Int32)), .val (.int c0), s11] [(.int (3 : Int32)), (.int (0 : Int32)), (.ref ar)]) _
          obtain ⟨_, _, ⟨T37, L37, k37, n37⟩, -, X37, ⟨Lc37, hQ37, l37, y37, z37⟩, st37⟩ := Jvm.LawKit.callS X34 hx (y := (⟨"java/lang/Character", "codePointAt", "([CII)I"⟩ : MethodName)) hown (mvT hZ (hw _ (List.mem_of_getElem? (i := 34) rfl))) (mvT hZ (hw _ (List.mem_of_getElem? (i := 35) rfl))) (mvT hZ (hw _ (List.mem_of_getElem? (i := 36) rfl))) (mvT hZ (hw _ (List.mem_of_getElem? (i := 37) rfl))) (by decide) (backOf (W := 0) (rm6 l Z a0 hw [] ar (0 : Int32) (3 : Int32) clA (3 : Int32) c0 h0 n0 Z0 ArA SzA MzA hinA0 hatA0 hc_c0 (by decide) (by decide) (by decide)) hZ (hw _ (List.mem_of_getElem? (i := 37) rfl)) (hw _ (List.mem_of_getElem? (i := 36) rfl)) (by decide) (by decide)) (g := (mkF m 116 #[.val (.ref a1), .val (.ref ar), .val (.int (0 : Int32)), .val (.int (3 : Int32)), .val (.int (1 : Int32)), .val (.int (-1 : Int32)), .val (.int (1 : Int32)), .val (.int pd), .val (.int (3 : Int32)), .val (.int (0 : Int32)), .val (.int c0), s11] [(.int (3 : Int32)), (.int (0 : Int32)), (.ref ar)])) rfl (by rw [hml]; rfl) (argsL := [(.ref ar), (.int (0 : Int32)), (.int (3 : Int32))]) (rest := []) (lenOf own_pd1 rfl) rfl (by show 2 * 0 + _ ≤ _; exact Nat.le_of_eq rfl) (hb hby d4_116) (fun _ _ => ⟨rfl, e34, (by decide : 0 + 0 ≤ _), (by decide : 0 + 0 ≤ _)⟩)
          dsimp only [Pt.U, Pt.locs, Pt.cells, Pt.slots] at X37 l37 y37 z37 st37 hQ37
          subst l37 y37 z37
          obtain ⟨rfl, N37q, e37⟩ := hQ37
          have N37 := Fr.app N34 N37q
          refine own_go st37 ?_
          show own_G p.tables e below T37 (mkF m 119 #[.val (.ref a1), .val (.ref ar), .val (.int (0 : Int32)), .val (.int (3 : Int32)), .val (.int (1 : Int32)), .val (.int (-1 : Int32)), .val (.int (1 : Int32)), .val (.int pd), .val (.int (3 : Int32)), .val (.int (0 : Int32)), .val (.int c0), s11] [(.int c0)]) _
          refine own_go (fun t_ k_ => XS.istoreS X37.here hx rfl (hb hby d4_119) rfl rfl h11 k_) ?_
          show own_G p.tables e below T37 (mkF m 121 #[.val (.ref a1), .val (.ref ar), .val (.int (0 : Int32)), .val (.int (3 : Int32)), .val (.int (1 : Int32)), .val (.int (-1 : Int32)), .val (.int (1 : Int32)), .val (.int pd), .val (.int (3 : Int32)), .val (.int (0 : Int32)), .val (.int c0), .val (.int c0)] []) _
          refine own_go (fun t_ k_ => XS.iload X37.here hx rfl (hb hby d4_121) rfl k_) ?_
          show own_G p.tables e below T37 (mkF m 123 #[.val (.ref a1), .val (.ref ar), .val (.int (0 : Int32)), .val (.int (3 : Int32)), .val (.int (1 : Int32)), .val (.int (-1 : Int32)), .val (.int (1 : Int32)), .val (.int pd), .val (.int (3 : Int32)), .val (.int (0 : Int32)), .val (.int c0), .val (.int c0)] [(.int (0 : Int32))]) _
          refine own_go (fun t_ k_ => XS.iload X37.here hx rfl (hb hby d4_123) rfl k_) ?_
          show own_G p.tables e below T37 (mkF m 125 #[.val (.ref a1), .val (.ref ar), .val (.int (0 : Int32)), .val (.int (3 : Int32)), .val (.int (1 : Int32)), .val (.int (-1 : Int32)), .val (.int (1 : Int32)), .val (.int pd), .val (.int (3 : Int32)), .val (.int (0 : Int32)), .val (.int c0), .val (.int c0)] [(.int c0), (.int (0 : Int32))]) _
          obtain ⟨_, _, ⟨T38, L38, k38, n38⟩, -, X38, ⟨Lc38, hQ38, l38, y38, z38⟩, st38⟩ := Jvm.LawKit.callS X37 hx (y := (⟨"java/lang/Character", "charCount", "(I)I"⟩ : MethodName)) hown (mvT hZ (hw _ (List.mem_of_getElem? (i := 45) rfl))) (mvT hZ (hw _ (List.mem_of_getElem? (i := 46) rfl))) (mvT hZ (hw _ (List.mem_of_getElem? (i := 36) rfl))) (mvT hZ (hw _ (List.mem_of_getElem? (i := 47) rfl))) (by decide) (backOf (W := 1) (rm9 l Z a0 hw [] c0 h0 n0 Z0 hc_c0) hZ (hw _ (List.mem_of_getElem? (i := 47) rfl)) (hw _ (List.mem_of_getElem? (i := 36) rfl)) (by decide) (by decide)) (g := (mkF m 125 #[.val (.ref a1), .val (.ref ar), .val (.int (0 : Int32)), .val (.int (3 : Int32)), .val (.int (1 : Int32)), .val (.int (-1 : Int32)), .val (.int (1 : Int32)), .val (.int pd), .val (.int (3 : Int32)), .val (.int (0 : Int32)), .val (.int c0), .val (.int c0)] [(.int c0), (.int (0 : Int32))])) rfl (by rw [hml]; rfl) (argsL := [(.int c0)]) (rest := [(.int (0 : Int32))]) (lenOf own_pd3 rfl) rfl (by show 2 * 0 + _ ≤ _; exact Nat.le_of_eq rfl) (hb hby d4_125) (fun _ _ => ⟨rfl, e37, (by decide : 0 + 0 ≤ _), (by decide : 0 + 0 ≤ _)⟩)
          dsimp only [Pt.U, Pt.locs, Pt.cells, Pt.slots] at X38 l38 y38 z38 st38 hQ38
          subst l38 y38 z38
          obtain ⟨rfl, N38q, e38⟩ := hQ38
          have N38 := Fr.app N37 N38q
          refine own_go st38 ?_
          show own_G p.tables e below T38 (mkF m 128 #[.val (.ref a1), .val (.ref ar), .val (.int (0 : Int32)), .val (.int (3 : Int32)), .val (.int (1 : Int32)), .val (.int (-1 : Int32)), .val (.int (1 : Int32)), .val (.int pd), .val (.int (3 : Int32)), .val (.int (0 : Int32)), .val (.int c0), .val (.int c0)] [(.int (1 : Int32)), (.int (0 : Int32))]) _
          refine own_go (fun t_ k_ => XS.iconst X38.here hx rfl (hb hby d4_128) k_) ?_
          show own_G p.tables e below T38 (mkF m 129 #[.val (.ref a1), .val (.ref ar), .val (.int (0 : Int32)), .val (.int (3 : Int32)), .val (.int (1 : Int32)), .val (.int (-1 : Int32)), .val (.int (1 : Int32)), .val (.int pd), .val (.int (3 : Int32)), .val (.int (0 : Int32)), .val (.int c0), .val (.int c0)] [(.int (1 : Int32)), (.int (1 : Int32)), (.int (0 : Int32))]) _
          refine own_go (fun t_ k_ => XS.isub X38.here hx rfl (hb hby d4_129) rfl k_) ?_
          show own_G p.tables e below T38 (mkF m 130 #[.val (.ref a1), .val (.ref ar), .val (.int (0 : Int32)), .val (.int (3 : Int32)), .val (.int (1 : Int32)), .val (.int (-1 : Int32)), .val (.int (1 : Int32)), .val (.int pd), .val (.int (3 : Int32)), .val (.int (0 : Int32)), .val (.int c0), .val (.int c0)] [(.int (0 : Int32)), (.int (0 : Int32))]) _
          refine own_go (fun t_ k_ => XS.iadd X38.here hx rfl (hb hby d4_130) rfl k_) ?_
          show own_G p.tables e below T38 (mkF m 131 #[.val (.ref a1), .val (.ref ar), .val (.int (0 : Int32)), .val (.int (3 : Int32)), .val (.int (1 : Int32)), .val (.int (-1 : Int32)), .val (.int (1 : Int32)), .val (.int pd), .val (.int (3 : Int32)), .val (.int (0 : Int32)), .val (.int c0), .val (.int c0)] [(.int (0 : Int32))]) _
          refine own_go (fun t_ k_ => XS.istore X38.here hx rfl (hb hby d4_131) rfl (l' := #[.val (.ref a1), .val (.ref ar), .val (.int (0 : Int32)), .val (.int (3 : Int32)), .val (.int (1 : Int32)), .val (.int (-1 : Int32)), .val (.int (1 : Int32)), .val (.int pd), .val (.int (3 : Int32)), .val (.int (0 : Int32)), .val (.int c0), .val (.int c0)]) rfl k_) ?_
          show own_G p.tables e below T38 (mkF m 133 #[.val (.ref a1), .val (.ref ar), .val (.int (0 : Int32)), .val (.int (3 : Int32)), .val (.int (1 : Int32)), .val (.int (-1 : Int32)), .val (.int (1 : Int32)), .val (.int pd), .val (.int (3 : Int32)), .val (.int (0 : Int32)), .val (.int c0), .val (.int c0)] []) _
          refine own_go (fun t_ k_ => XS.iload X38.here hx rfl (hb hby d4_133) rfl k_) ?_
          show own_G p.tables e below T38 (mkF m 135 #[.val (.ref a1), .val (.ref ar), .val (.int (0 : Int32)), .val (.int (3 : Int32)), .val (.int (1 : Int32)), .val (.int (-1 : Int32)), .val (.int (1 : Int32)), .val (.int pd), .val (.int (3 : Int32)), .val (.int (0 : Int32)), .val (.int c0), .val (.int c0)] [(.int c0)]) _
          obtain ⟨_, _, ⟨T39, L39, k39, n39⟩, -, X39, ⟨Lc39, hQ39, l39, y39, z39⟩, st39⟩ := Jvm.LawKit.callS X38 hx (y := (⟨"com/example/einzug/einzug/rules/PermittedCharacters", "isPermitted", "(I)Z"⟩ : MethodName)) hown (mvT hZ (hw _ (List.mem_of_getElem? (i := 49) rfl))) (mvT hZ (hw _ (List.mem_of_getElem? (i := 50) rfl))) (mvT hZ (hw _ (List.mem_of_getElem? (i := 51) rfl))) (mvT hZ (hw _ (List.mem_of_getElem? (i := 52) rfl))) (by decide) (backOf (W := 0) (rm10 l Z a0 hw [] c0 aP clP h0 n0 Z0 S_P Ar_P sz_P tab_P) hZ (hw _ (List.mem_of_getElem? (i := 52) rfl)) (hw _ (List.mem_of_getElem? (i := 51) rfl)) (by decide) (by decide)) (g := (mkF m 135 #[.val (.ref a1), .val (.ref ar), .val (.int (0 : Int32)), .val (.int (3 : Int32)), .val (.int (1 : Int32)), .val (.int (-1 : Int32)), .val (.int (1 : Int32)), .val (.int pd), .val (.int (3 : Int32)), .val (.int (0 : Int32)), .val (.int c0), .val (.int c0)] [(.int c0)])) rfl (by rw [hml]; rfl) (argsL := [(.int c0)]) (rest := []) (lenOf own_pd2 rfl) rfl (by show 2 * 0 + _ ≤ _; exact Nat.le_of_eq rfl) (hb hby d4_135) (fun _ _ => ⟨rfl, e38, (by decide : 0 + 0 ≤ _), (by decide : 0 + 0 ≤ _)⟩)
          dsimp only [Pt.U, Pt.locs, Pt.cells, Pt.slots] at X39 l39 y39 z39 st39 hQ39
          subst l39 y39 z39
          obtain ⟨rfl, N39q, e39⟩ := hQ39
          have N39 := Fr.app N38 N39q
          refine own_go st39 ?_
          show own_G p.tables e below T39 (mkF m 138 #[.val (.ref a1), .val (.ref ar), .val (.int (0 : Int32)), .val (.int (3 : Int32)), .val (.int (1 : Int32)), .val (.int (-1 : Int32)), .val (.int (1 : Int32)), .val (.int pd), .val (.int (3 : Int32)), .val (.int (0 : Int32)), .val (.int c0), .val (.int c0)] [(.int (own_isp c0))]) _
          by_cases hc138_40 : (own_isp c0) = (0 : Int32)
          · skip
            refine own_go (fun t_ k_ => XS.ifNo X39.here hx rfl (hb hby d4_138) rfl ((if0 _ _).trans (teq hc138_40).2) k_) ?_
            show own_G p.tables e below T39 (mkF m 141 #[.val (.ref a1), .val (.ref ar), .val (.int (0 : Int32)), .val (.int (3 : Int32)), .val (.int (1 : Int32)), .val (.int (-1 : Int32)), .val (.int (1 : Int32)), .val (.int pd), .val (.int (3 : Int32)), .val (.int (0 : Int32)), .val (.int c0), .val (.int c0)] []) _
            refine own_go (fun t_ k_ => XS.iload X39.here hx rfl (hb hby d4_141) rfl k_) ?_
            show own_G p.tables e below T39 (mkF m 143 #[.val (.ref a1), .val (.ref ar), .val (.int (0 : Int32)), .val (.int (3 : Int32)), .val (.int (1 : Int32)), .val (.int (-1 : Int32)), .val (.int (1 : Int32)), .val (.int pd), .val (.int (3 : Int32)), .val (.int (0 : Int32)), .val (.int c0), .val (.int c0)] [(.int c0)]) _
            refine own_go (fun t_ k_ => XS.istore X39.here hx rfl (hb hby d4_143) rfl (l' := #[.val (.ref a1), .val (.ref ar), .val (.int (0 : Int32)), .val (.int (3 : Int32)), .val (.int (1 : Int32)), .val (.int c0), .val (.int (1 : Int32)), .val (.int pd), .val (.int (3 : Int32)), .val (.int (0 : Int32)), .val (.int c0), .val (.int c0)]) rfl k_) ?_
            show own_G p.tables e below T39 (mkF m 145 #[.val (.ref a1), .val (.ref ar), .val (.int (0 : Int32)), .val (.int (3 : Int32)), .val (.int (1 : Int32)), .val (.int c0), .val (.int (1 : Int32)), .val (.int pd), .val (.int (3 : Int32)), .val (.int (0 : Int32)), .val (.int c0), .val (.int c0)] []) _
            refine own_go (fun t_ k_ => XS.iinc X39.here hx rfl (hb hby d4_145) rfl (l' := #[.val (.ref a1), .val (.ref ar), .val (.int (0 : Int32)), .val (.int (3 : Int32)), .val (.int (1 : Int32)), .val (.int c0), .val (.int (1 : Int32)), .val (.int pd), .val (.int (3 : Int32)), .val (.int (1 : Int32)), .val (.int c0), .val (.int c0)]) rfl k_) ?_
            show own_G p.tables e below T39 (mkF m 148 #[.val (.ref a1), .val (.ref ar), .val (.int (0 : Int32)), .val (.int (3 : Int32)), .val (.int (1 : Int32)), .val (.int c0), .val (.int (1 : Int32)), .val (.int pd), .val (.int (3 : Int32)), .val (.int (1 : Int32)), .val (.int c0), .val (.int c0)] []) _
            refine own_go (fun t_ k_ => XS.goto X39.here hx rfl (pc0 := 148) (pc' := 43) rfl (hb hby d4_148) (by decide) (by decide) k_) ?_
            show own_G p.tables e below T39 (mkF m 43 #[.val (.ref a1), .val (.ref ar), .val (.int (0 : Int32)), .val (.int (3 : Int32)), .val (.int (1 : Int32)), .val (.int c0), .val (.int (1 : Int32)), .val (.int pd), .val (.int (3 : Int32)), .val (.int (1 : Int32)), .val (.int c0), .val (.int c0)] []) _
            have hstep : own_step c0 st' pd = (c0, (1 : Int32), pd) := by unfold own_step; rw [if_pos hc67_35, if_pos hc98_36, if_pos hc138_40]
            rw [hstep] at hrun
            exact turn1 _ _ _ _ _ _ _ X39 e39 N39 (One.val rfl) (One.val rfl) (Or.inr rfl) hrun
          · skip
            refine own_go (fun t_ k_ => XS.ifYes X39.here hx rfl (pc0 := 138) (pc' := 145) rfl (hb hby d4_138) rfl ((if0 _ _).trans (feq hc138_40).2) (by decide) (by decide) k_) ?_
            show own_G p.tables e below T39 (mkF m 145 #[.val (.ref a1), .val (.ref ar), .val (.int (0 : Int32)), .val (.int (3 : Int32)), .val (.int (1 : Int32)), .val (.int (-1 : Int32)), .val (.int (1 : Int32)), .val (.int pd), .val (.int (3 : Int32)), .val (.int (0 : Int32)), .val (.int c0), .val (.int c0)] []) _
            refine own_go (fun t_ k_ => XS.iinc X39.here hx rfl (hb hby d4_145) rfl (l' := #[.val (.ref a1), .val (.ref ar), .val (.int (0 : Int32)), .val (.int (3 : Int32)), .val (.int (1 : Int32)), .val (.int (-1 : Int32)), .val (.int (1 : Int32)), .val (.int pd), .val (.int (3 : Int32)), .val (.int (1 : Int32)), .val (.int c0), .val (.int c0)]) rfl k_) ?_
            show own_G p.tables e below T39 (mkF m 148 #[.val (.ref a1), .val (.ref ar), .val (.int (0 : Int32)), .val (.int (3 : Int32)), .val (.int (1 : Int32)), .val (.int (-1 : Int32)), .val (.int (1 : Int32)), .val (.int pd), .val (.int (3 : Int32)), .val (.int (1 : Int32)), .val (.int c0), .val (.int c0)] []) _
            refine own_go (fun t_ k_ => XS.goto X39.here hx rfl (pc0 := 148) (pc' := 43) rfl (hb hby d4_148) (by decide) (by decide) k_) ?_
            show own_G p.tables e below T39 (mkF m 43 #[.val (.ref a1), .val (.ref ar), .val (.int (0 : Int32)), .val (.int (3 : Int32)), .val (.int (1 : Int32)), .val (.int (-1 : Int32)), .val (.int (1 : Int32)), .val (.int pd), .val (.int (3 : Int32)), .val (.int (1 : Int32)), .val (.int c0), .val (.int c0)] []) _
            have hstep : own_step c0 st' pd = ((-1 : Int32), (1 : Int32), pd) := by unfold own_step; rw [if_pos hc67_35, if_pos hc98_36, if_neg hc138_40]
            rw [hstep] at hrun
            exact turn1 _ _ _ _ _ _ _ X39 e39 N39 (One.val rfl) (One.val rfl) (Or.inr rfl) hrun
        · skip
          refine own_go (fun t_ k_ => XS.icmpNo X34.here hx rfl (hb hby d4_98) rfl (feq hc98_36).1 k_) ?_
          show own_G p.tables e below T34 (mkF m 101 #[.val (.ref a1), .val (.ref ar), .val (.int (0 : Int32)), .val (.int (3 : Int32)), .val (.int (1 : Int32)), .val (.int (-1 : Int32)), .val (.int st'), .val (.int pd), .val (.int (3 : Int32)), .val (.int (0 : Int32)), .val (.int c0), s11] []) _
          refine own_go (fun t_ k_ => XS.iload X34.here hx rfl (hb hby d4_101) rfl k_) ?_
          show own_G p.tables e below T34 (mkF m 103 #[.val (.ref a1), .val (.ref ar), .val (.int (0 : Int32)), .val (.int (3 : Int32)), .val (.int (1 : Int32)), .val (.int (-1 : Int32)), .val (.int st'), .val (.int pd), .val (.int (3 : Int32)), .val (.int (0 : Int32)), .val (.int c0), s11] [(.int pd)]) _
          refine own_go (fun t_ k_ => XS.istore X34.here hx rfl (hb hby d4_103) rfl (l' := #[.val (.ref a1), .val (.ref ar), .val (.int (0 : Int32)), .val (.int (3 : Int32)), .val (.int (1 : Int32)), .val (.int pd), .val (.int st'), .val (.int pd), .val (.int (3 : Int32)), .val (.int (0 : Int32)), .val (.int c0), s11]) rfl k_) ?_
          show own_G p.tables e below T34 (mkF m 105 #[.val (.ref a1), .val (.ref ar), .val (.int (0 : Int32)), .val (.int (3 : Int32)), .val (.int (1 : Int32)), .val (.int pd), .val (.int st'), .val (.int pd), .val (.int (3 : Int32)), .val (.int (0 : Int32)), .val (.int c0), s11] []) _
          refine own_go (fun t_ k_ => XS.goto X34.here hx rfl (pc0 := 105) (pc' := 145) rfl (hb hby d4_105) (by decide) (by decide) k_) ?_
          show own_G p.tables e below T34 (mkF m 145 #[.val (.ref a1), .val (.ref ar), .val (.int (0 : Int32)), .val (.int (3 : Int32)), .val (.int (1 : Int32)), .val (.int pd), .val (.int st'), .val (.int pd), .val (.int (3 : Int32)), .val (.int (0 : Int32)), .val (.int c0), s11] []) _
          refine own_go (fun t_ k_ => XS.iinc X34.here hx rfl (hb hby d4_145) rfl (l' := #[.val (.ref a1), .val (.ref ar), .val (.int (0 : Int32)), .val (.int (3 : Int32)), .val (.int (1 : Int32)), .val (.int pd), .val (.int st'), .val (.int pd), .val (.int (3 : Int32)), .val (.int (1 : Int32)), .val (.int c0), s11]) rfl k_) ?_
          show own_G p.tables e below T34 (mkF m 148 #[.val (.ref a1), .val (.ref ar), .val (.int (0 : Int32)), .val (.int (3 : Int32)), .val (.int (1 : Int32)), .val (.int pd), .val (.int st'), .val (.int pd), .val (.int (3 : Int32)), .val (.int (1 : Int32)), .val (.int c0), s11] []) _
          refine own_go (fun t_ k_ => XS.goto X34.here hx rfl (pc0 := 148) (pc' := 43) rfl (hb hby d4_148) (by decide) (by decide) k_) ?_
          show own_G p.tables e below T34 (mkF m 43 #[.val (.ref a1), .val (.ref ar), .val (.int (0 : Int32)), .val (.int (3 : Int32)), .val (.int (1 : Int32)), .val (.int pd), .val (.int st'), .val (.int pd), .val (.int (3 : Int32)), .val (.int (1 : Int32)), .val (.int c0), s11] []) _
          have hstep : own_step c0 st' pd = (pd, st', pd) := by unfold own_step; rw [if_pos hc67_35, if_neg hc98_36]
          rw [hstep] at hrun
          exact turn1 _ _ _ _ _ _ _ X34 e34 N34 (One.val rfl) h11 hs hrun
      · skip
        refine own_go (fun t_ k_ => XS.ifNo X34.here hx rfl (hb hby d4_67) rfl ((if0 _ _).trans (feq hc67_35).1) k_) ?_
        show own_G p.tables e below T34 (mkF m 70 #[.val (.ref a1), .val (.ref ar), .val (.int (0 : Int32)), .val (.int (3 : Int32)), .val (.int (1 : Int32)), .val (.int (-1 : Int32)), .val (.int st'), .val (.int pd), .val (.int (3 : Int32)), .val (.int (0 : Int32)), .val (.int c0), s11] []) _
        refine own_go (fun t_ k_ => XS.iload X34.here hx rfl (hb hby d4_70) rfl k_) ?_
        show own_G p.tables e below T34 (mkF m 72 #[.val (.ref a1), .val (.ref ar), .val (.int (0 : Int32)), .val (.int (3 : Int32)), .val (.int (1 : Int32)), .val (.int (-1 : Int32)), .val (.int st'), .val (.int pd), .val (.int (3 : Int32)), .val (.int (0 : Int32)), .val (.int c0), s11] [(.int st')]) _
        by_cases hc72_41 : st' = (0 : Int32)
        · skip
          refine own_go (fun t_ k_ => XS.ifYes X34.here hx rfl (pc0 := 72) (pc' := 145) rfl (hb hby d4_72) rfl ((if0 _ _).trans (teq hc72_41).1) (by decide) (by decide) k_) ?_
          show own_G p.tables e below T34 (mkF m 145 #[.val (.ref a1), .val (.ref ar), .val (.int (0 : Int32)), .val (.int (3 : Int32)), .val (.int (1 : Int32)), .val (.int (-1 : Int32)), .val (.int st'), .val (.int pd), .val (.int (3 : Int32)), .val (.int (0 : Int32)), .val (.int c0), s11] []) _
          refine own_go (fun t_ k_ => XS.iinc X34.here hx rfl (hb hby d4_145) rfl (l' := #[.val (.ref a1), .val (.ref ar), .val (.int (0 : Int32)), .val (.int (3 : Int32)), .val (.int (1 : Int32)), .val (.int (-1 : Int32)), .val (.int st'), .val (.int pd), .val (.int (3 : Int32)), .val (.int (1 : Int32)), .val (.int c0), s11]) rfl k_) ?_
          show own_G p.tables e below T34 (mkF m 148 #[.val (.ref a1), .val (.ref ar), .val (.int (0 : Int32)), .val (.int (3 : Int32)), .val (.int (1 : Int32)), .val (.int (-1 : Int32)), .val (.int st'), .val (.int pd), .val (.int (3 : Int32)), .val (.int (1 : Int32)), .val (.int c0), s11] []) _
          refine own_go (fun t_ k_ => XS.goto X34.here hx rfl (pc0 := 148) (pc' := 43) rfl (hb hby d4_148) (by decide) (by decide) k_) ?_
          show own_G p.tables e below T34 (mkF m 43 #[.val (.ref a1), .val (.ref ar), .val (.int (0 : Int32)), .val (.int (3 : Int32)), .val (.int (1 : Int32)), .val (.int (-1 : Int32)), .val (.int st'), .val (.int pd), .val (.int (3 : Int32)), .val (.int (1 : Int32)), .val (.int c0), s11] []) _
          have hstep : own_step c0 st' pd = ((-1 : Int32), st', pd) := by unfold own_step; rw [if_neg hc67_35, if_pos hc72_41]
          rw [hstep] at hrun
          exact turn1 _ _ _ _ _ _ _ X34 e34 N34 (One.val rfl) h11 hs hrun
        · skip
          refine own_go (fun t_ k_ => XS.ifNo X34.here hx rfl (hb hby d4_72) rfl ((if0 _ _).trans (feq hc72_41).1) k_) ?_
          show own_G p.tables e below T34 (mkF m 75 #[.val (.ref a1), .val (.ref ar), .val (.int (0 : Int32)), .val (.int (3 : Int32)), .val (.int (1 : Int32)), .val (.int (-1 : Int32)), .val (.int st'), .val (.int pd), .val (.int (3 : Int32)), .val (.int (0 : Int32)), .val (.int c0), s11] []) _
          refine own_go (fun t_ k_ => XS.iload X34.here hx rfl (hb hby d4_75) rfl k_) ?_
          show own_G p.tables e below T34 (mkF m 77 #[.val (.ref a1), .val (.ref ar), .val (.int (0 : Int32)), .val (.int (3 : Int32)), .val (.int (1 : Int32)), .val (.int (-1 : Int32)), .val (.int st'), .val (.int pd), .val (.int (3 : Int32)), .val (.int (0 : Int32)), .val (.int c0), s11] [(.int c0)]) _
          refine own_go (fun t_ k_ => XS.bipush X34.here hx rfl (hb hby d4_77) k_) ?_
          show own_G p.tables e below T34 (mkF m 79 #[.val (.ref a1), .val (.ref ar), .val (.int (0 : Int32)), .val (.int (3 : Int32)), .val (.int (1 : Int32)), .val (.int (-1 : Int32)), .val (.int st'), .val (.int pd), .val (.int (3 : Int32)), .val (.int (0 : Int32)), .val (.int c0), s11] [(.int (32 : Int32)), (.int c0)]) _
          by_cases hc79_42 : c0 = (32 : Int32)
          · skip
            refine own_go (fun t_ k_ => XS.icmpYes X34.here hx rfl (pc0 := 79) (pc' := 145) rfl (hb hby d4_79) rfl (teq hc79_42).1 (by decide) (by decide) k_) ?_
            show own_G p.tables e below T34 (mkF m 145 #[.val (.ref a1), .val (.ref ar), .val (.int (0 : Int32)), .val (.int (3 : Int32)), .val (.int (1 : Int32)), .val (.int (-1 : Int32)), .val (.int st'), .val (.int pd), .val (.int (3 : Int32)), .val (.int (0 : Int32)), .val (.int c0), s11] []) _
            refine own_go (fun t_ k_ => XS.iinc X34.here hx rfl (hb hby d4_145) rfl (l' := #[.val (.ref a1), .val (.ref ar), .val (.int (0 : Int32)), .val (.int (3 : Int32)), .val (.int (1 : Int32)), .val (.int (-1 : Int32)), .val (.int st'), .val (.int pd), .val (.int (3 : Int32)), .val (.int (1 : Int32)), .val (.int c0), s11]) rfl k_) ?_
            show own_G p.tables e below T34 (mkF m 148 #[.val (.ref a1), .val (.ref ar), .val (.int (0 : Int32)), .val (.int (3 : Int32)), .val (.int (1 : Int32)), .val (.int (-1 : Int32)), .val (.int st'), .val (.int pd), .val (.int (3 : Int32)), .val (.int (1 : Int32)), .val (.int c0), s11] []) _
            refine own_go (fun t_ k_ => XS.goto X34.here hx rfl (pc0 := 148) (pc' := 43) rfl (hb hby d4_148) (by decide) (by decide) k_) ?_
            show own_G p.tables e below T34 (mkF m 43 #[.val (.ref a1), .val (.ref ar), .val (.int (0 : Int32)), .val (.int (3 : Int32)), .val (.int (1 : Int32)), .val (.int (-1 : Int32)), .val (.int st'), .val (.int pd), .val (.int (3 : Int32)), .val (.int (1 : Int32)), .val (.int c0), s11] []) _
            have hstep : own_step c0 st' pd = ((-1 : Int32), st', pd) := by unfold own_step; rw [if_neg hc67_35, if_neg hc72_41, if_pos hc79_42]
            rw [hstep] at hrun
            exact turn1 _ _ _ _ _ _ _ X34 e34 N34 (One.val rfl) h11 hs hrun
          · skip
            refine own_go (fun t_ k_ => XS.icmpNo X34.here hx rfl (hb hby d4_79) rfl (feq hc79_42).1 k_) ?_
            show own_G p.tables e below T34 (mkF m 82 #[.val (.ref a1), .val (.ref ar), .val (.int (0 : Int32)), .val (.int (3 : Int32)), .val (.int (1 : Int32)), .val (.int (-1 : Int32)), .val (.int st'), .val (.int pd), .val (.int (3 : Int32)), .val (.int (0 : Int32)), .val (.int c0), s11] []) _
            refine own_go (fun t_ k_ => XS.iload X34.here hx rfl (hb hby d4_82) rfl k_) ?_
            show own_G p.tables e below T34 (mkF m 84 #[.val (.ref a1), .val (.ref ar), .val (.int (0 : Int32)), .val (.int (3 : Int32)), .val (.int (1 : Int32)), .val (.int (-1 : Int32)), .val (.int st'), .val (.int pd), .val (.int (3 : Int32)), .val (.int (0 : Int32)), .val (.int c0), s11] [(.int pd)]) _
            refine own_go (fun t_ k_ => XS.iconst X34.here hx rfl (hb hby d4_84) k_) ?_
            show own_G p.tables e below T34 (mkF m 85 #[.val (.ref a1), .val (.ref ar), .val (.int (0 : Int32)), .val (.int (3 : Int32)), .val (.int (1 : Int32)), .val (.int (-1 : Int32)), .val (.int st'), .val (.int pd), .val (.int (3 : Int32)), .val (.int (0 : Int32)), .val (.int c0), s11] [(.int (-1 : Int32)), (.int pd)]) _
            by_cases hc85_43 : pd = (-1 : Int32)
            · skip
              refine own_go (fun t_ k_ => XS.icmpNo X34.here hx rfl (hb hby d4_85) rfl (teq hc85_43).2 k_) ?_
              show own_G p.tables e below T34 (mkF m 88 #[.val (.ref a1), .val (.ref ar), .val (.int (0 : Int32)), .val (.int (3 : Int32)), .val (.int (1 : Int32)), .val (.int (-1 : Int32)), .val (.int st'), .val (.int pd), .val (.int (3 : Int32)), .val (.int (0 : Int32)), .val (.int c0), s11] []) _
              refine own_go (fun t_ k_ => XS.iload X34.here hx rfl (hb hby d4_88) rfl k_) ?_
              show own_G p.tables e below T34 (mkF m 90 #[.val (.ref a1), .val (.ref ar), .val (.int (0 : Int32)), .val (.int (3 : Int32)), .val (.int (1 : Int32)), .val (.int (-1 : Int32)), .val (.int st'), .val (.int pd), .val (.int (3 : Int32)), .val (.int (0 : Int32)), .val (.int c0), s11] [(.int c0)]) _
              refine own_go (fun t_ k_ => XS.istore X34.here hx rfl (hb hby d4_90) rfl (l' := #[.val (.ref a1), .val (.ref ar), .val (.int (0 : Int32)), .val (.int (3 : Int32)), .val (.int (1 : Int32)), .val (.int (-1 : Int32)), .val (.int st'), .val (.int c0), .val (.int (3 : Int32)), .val (.int (0 : Int32)), .val (.int c0), s11]) rfl k_) ?_
              show own_G p.tables e below T34 (mkF m 92 #[.val (.ref a1), .val (.ref ar), .val (.int (0 : Int32)), .val (.int (3 : Int32)), .val (.int (1 : Int32)), .val (.int (-1 : Int32)), .val (.int st'), .val (.int c0), .val (.int (3 : Int32)), .val (.int (0 : Int32)), .val (.int c0), s11] []) _
              refine own_go (fun t_ k_ => XS.goto X34.here hx rfl (pc0 := 92) (pc' := 145) rfl (hb hby d4_92) (by decide) (by decide) k_) ?_
              show own_G p.tables e below T34 (mkF m 145 #[.val (.ref a1), .val (.ref ar), .val (.int (0 : Int32)), .val (.int (3 : Int32)), .val (.int (1 : Int32)), .val (.int (-1 : Int32)), .val (.int st'), .val (.int c0), .val (.int (3 : Int32)), .val (.int (0 : Int32)), .val (.int c0), s11] []) _
              refine own_go (fun t_ k_ => XS.iinc X34.here hx rfl (hb hby d4_145) rfl (l' := #[.val (.ref a1), .val (.ref ar), .val (.int (0 : Int32)), .val (.int (3 : Int32)), .val (.int (1 : Int32)), .val (.int (-1 : Int32)), .val (.int st'), .val (.int c0), .val (.int (3 : Int32)), .val (.int (1 : Int32)), .val (.int c0), s11]) rfl k_) ?_
              show own_G p.tables e below T34 (mkF m 148 #[.val (.ref a1), .val (.ref ar), .val (.int (0 : Int32)), .val (.int (3 : Int32)), .val (.int (1 : Int32)), .val (.int (-1 : Int32)), .val (.int st'), .val (.int c0), .val (.int (3 : Int32)), .val (.int (1 : Int32)), .val (.int c0), s11] []) _
              refine own_go (fun t_ k_ => XS.goto X34.here hx rfl (pc0 := 148) (pc' := 43) rfl (hb hby d4_148) (by decide) (by decide) k_) ?_
              show own_G p.tables e below T34 (mkF m 43 #[.val (.ref a1), .val (.ref ar), .val (.int (0 : Int32)), .val (.int (3 : Int32)), .val (.int (1 : Int32)), .val (.int (-1 : Int32)), .val (.int st'), .val (.int c0), .val (.int (3 : Int32)), .val (.int (1 : Int32)), .val (.int c0), s11] []) _
              have hstep : own_step c0 st' pd = ((-1 : Int32), st', c0) := by unfold own_step; rw [if_neg hc67_35, if_neg hc72_41, if_neg hc79_42, if_pos hc85_43]
              rw [hstep] at hrun
              exact turn1 _ _ _ _ _ _ _ X34 e34 N34 (One.val rfl) h11 hs hrun
            · skip
              refine own_go (fun t_ k_ => XS.icmpYes X34.here hx rfl (pc0 := 85) (pc' := 145) rfl (hb hby d4_85) rfl (feq hc85_43).2 (by decide) (by decide) k_) ?_
              show own_G p.tables e below T34 (mkF m 145 #[.val (.ref a1), .val (.ref ar), .val (.int (0 : Int32)), .val (.int (3 : Int32)), .val (.int (1 : Int32)), .val (.int (-1 : Int32)), .val (.int st'), .val (.int pd), .val (.int (3 : Int32)), .val (.int (0 : Int32)), .val (.int c0), s11] []) _
              refine own_go (fun t_ k_ => XS.iinc X34.here hx rfl (hb hby d4_145) rfl (l' := #[.val (.ref a1), .val (.ref ar), .val (.int (0 : Int32)), .val (.int (3 : Int32)), .val (.int (1 : Int32)), .val (.int (-1 : Int32)), .val (.int st'), .val (.int pd), .val (.int (3 : Int32)), .val (.int (1 : Int32)), .val (.int c0), s11]) rfl k_) ?_
              show own_G p.tables e below T34 (mkF m 148 #[.val (.ref a1), .val (.ref ar), .val (.int (0 : Int32)), .val (.int (3 : Int32)), .val (.int (1 : Int32)), .val (.int (-1 : Int32)), .val (.int st'), .val (.int pd), .val (.int (3 : Int32)), .val (.int (1 : Int32)), .val (.int c0), s11] []) _
              refine own_go (fun t_ k_ => XS.goto X34.here hx rfl (pc0 := 148) (pc' := 43) rfl (hb hby d4_148) (by decide) (by decide) k_) ?_
              show own_G p.tables e below T34 (mkF m 43 #[.val (.ref a1), .val (.ref ar), .val (.int (0 : Int32)), .val (.int (3 : Int32)), .val (.int (1 : Int32)), .val (.int (-1 : Int32)), .val (.int st'), .val (.int pd), .val (.int (3 : Int32)), .val (.int (1 : Int32)), .val (.int c0), s11] []) _
              have hstep : own_step c0 st' pd = ((-1 : Int32), st', pd) := by unfold own_step; rw [if_neg hc67_35, if_neg hc72_41, if_neg hc79_42, if_neg hc85_43]
              rw [hstep] at hrun
              exact turn1 _ _ _ _ _ _ _ X34 e34 N34 (One.val rfl) h11 hs hrun
    · rw [own_run_out _ _ hr1] at hrun
      show own_G p.tables e below Tt (mkF m 43 #[.val (.ref a1), .val (.ref ar), .val (.int (0 : Int32)), .val (.int (3 : Int32)), .val (.int (1 : Int32)), .val (.int r), .val (.int st'), .val (.int pd), .val (.int (3 : Int32)), .val (.int (0 : Int32)), s10, s11] []) _
      refine own_go (fun t_ k_ => XS.iload Xt.here hx rfl (hb hby d4_43) rfl k_) ?_
      show own_G p.tables e below Tt (mkF m 45 #[.val (.ref a1), .val (.ref ar), .val (.int (0 : Int32)), .val (.int (3 : Int32)), .val (.int (1 : Int32)), .val (.int r), .val (.int st'), .val (.int pd), .val (.int (3 : Int32)), .val (.int (0 : Int32)), s10, s11] [(.int (0 : Int32))]) _
      refine own_go (fun t_ k_ => XS.iload Xt.here hx rfl (hb hby d4_45) rfl k_) ?_
      show own_G p.tables e below Tt (mkF m 47 #[.val (.ref a1), .val (.ref ar), .val (.int (0 : Int32)), .val (.int (3 : Int32)), .val (.int (1 : Int32)), .val (.int r), .val (.int st'), .val (.int pd), .val (.int (3 : Int32)), .val (.int (0 : Int32)), s10, s11] [(.int (3 : Int32)), (.int (0 : Int32))]) _
      refine own_go (fun t_ k_ => XS.icmpNo Xt.here hx rfl (hb hby d4_47) rfl (tlt (by decide : ((0 : Int32) < (3 : Int32)))).2.1 k_) ?_
      show own_G p.tables e below Tt (mkF m 50 #[.val (.ref a1), .val (.ref ar), .val (.int (0 : Int32)), .val (.int (3 : Int32)), .val (.int (1 : Int32)), .val (.int r), .val (.int st'), .val (.int pd), .val (.int (3 : Int32)), .val (.int (0 : Int32)), s10, s11] []) _
      refine own_go (fun t_ k_ => XS.iload Xt.here hx rfl (hb hby d4_50) rfl k_) ?_
      show own_G p.tables e below Tt (mkF m 52 #[.val (.ref a1), .val (.ref ar), .val (.int (0 : Int32)), .val (.int (3 : Int32)), .val (.int (1 : Int32)), .val (.int r), .val (.int st'), .val (.int pd), .val (.int (3 : Int32)), .val (.int (0 : Int32)), s10, s11] [(.int r)]) _
      refine own_go (fun t_ k_ => XS.iconst Xt.here hx rfl (hb hby d4_52) k_) ?_
      show own_G p.tables e below Tt (mkF m 53 #[.val (.ref a1), .val (.ref ar), .val (.int (0 : Int32)), .val (.int (3 : Int32)), .val (.int (1 : Int32)), .val (.int r), .val (.int st'), .val (.int pd), .val (.int (3 : Int32)), .val (.int (0 : Int32)), s10, s11] [(.int (-1 : Int32)), (.int r)]) _
      refine own_go (fun t_ k_ => XS.icmpYes Xt.here hx rfl (pc0 := 53) (pc' := 151) rfl (hb hby d4_53) rfl (feq hr1).2 (by decide) (by decide) k_) ?_
      show own_G p.tables e below Tt (mkF m 151 #[.val (.ref a1), .val (.ref ar), .val (.int (0 : Int32)), .val (.int (3 : Int32)), .val (.int (1 : Int32)), .val (.int r), .val (.int st'), .val (.int pd), .val (.int (3 : Int32)), .val (.int (0 : Int32)), s10, s11] []) _
      exact exit _ _ _ _ _ _ _ _ Xt et Nt h10 h11 hs hrun
  show own_G p.tables e below s₁ (mkF m 0 #[.val (.ref a1), .val (.ref ar), .val (.int (0 : Int32)), .val (.int (3 : Int32)), .unset, .unset, .unset, .unset, .unset, .unset, .unset, .unset] []) _
  refine own_go (fun t_ k_ => XS.aloadN X0.here hx rfl (hb hby d4_0) rfl rfl k_) ?_
  show own_G p.tables e below s₁ (mkF m 1 #[.val (.ref a1), .val (.ref ar), .val (.int (0 : Int32)), .val (.int (3 : Int32)), .unset, .unset, .unset, .unset, .unset, .unset, .unset, .unset] [(.ref a1)]) _
  obtain ⟨T44, X44, e44, st44⟩ := getF X0 hx hZ hown (host := "") (Or.inl (hw _ (List.mem_of_getElem? (i := 23) rfl))) Via.refl e0 F_depth (g := (mkF m 1 #[.val (.ref a1), .val (.ref ar), .val (.int (0 : Int32)), .val (.int (3 : Int32)), .unset, .unset, .unset, .unset, .unset, .unset, .unset, .unset] [(.ref a1)])) rfl rfl (hb hby d4_1)
  refine own_go st44 ?_
  show own_G p.tables e below T44 (mkF m 4 #[.val (.ref a1), .val (.ref ar), .val (.int (0 : Int32)), .val (.int (3 : Int32)), .unset, .unset, .unset, .unset, .unset, .unset, .unset, .unset] [(.int (2 : Int32))]) _
  refine own_go (fun t_ k_ => XS.iconst X44.here hx rfl (hb hby d4_4) k_) ?_
  show own_G p.tables e below T44 (mkF m 5 #[.val (.ref a1), .val (.ref ar), .val (.int (0 : Int32)), .val (.int (3 : Int32)), .unset, .unset, .unset, .unset, .unset, .unset, .unset, .unset] [(.int (1 : Int32)), (.int (2 : Int32))]) _
  refine own_go (fun t_ k_ => XS.isub X44.here hx rfl (hb hby d4_5) rfl k_) ?_
  show own_G p.tables e below T44 (mkF m 6 #[.val (.ref a1), .val (.ref ar), .val (.int (0 : Int32)), .val (.int (3 : Int32)), .unset, .unset, .unset, .unset, .unset, .unset, .unset, .unset] [(.int (1 : Int32))]) _
  refine own_go (fun t_ k_ => XS.istore X44.here hx rfl (hb hby d4_6) rfl (l' := #[.val (.ref a1), .val (.ref ar), .val (.int (0 : Int32)), .val (.int (3 : Int32)), .val (.int (1 : Int32)), .unset, .unset, .unset, .unset, .unset, .unset, .unset]) rfl k_) ?_
  show own_G p.tables e below T44 (mkF m 8 #[.val (.ref a1), .val (.ref ar), .val (.int (0 : Int32)), .val (.int (3 : Int32)), .val (.int (1 : Int32)), .unset, .unset, .unset, .unset, .unset, .unset, .unset] []) _
  refine own_go (fun t_ k_ => XS.aloadN X44.here hx rfl (hb hby d4_8) rfl rfl k_) ?_
  show own_G p.tables e below T44 (mkF m 9 #[.val (.ref a1), .val (.ref ar), .val (.int (0 : Int32)), .val (.int (3 : Int32)), .val (.int (1 : Int32)), .unset, .unset, .unset, .unset, .unset, .unset, .unset] [(.ref a1)]) _
  obtain ⟨T45, X45, e45, st45⟩ := getF X44 hx hZ hown (host := "") (Or.inl (hw _ (List.mem_of_getElem? (i := 11) rfl))) Via.refl e44 F_refused (g := (mkF m 9 #[.val (.ref a1), .val (.ref ar), .val (.int (0 : Int32)), .val (.int (3 : Int32)), .val (.int (1 : Int32)), .unset, .unset, .unset, .unset, .unset, .unset, .unset] [(.ref a1)])) rfl rfl (hb hby d4_9)
  refine own_go st45 ?_
  show own_G p.tables e below T45 (mkF m 12 #[.val (.ref a1), .val (.ref ar), .val (.int (0 : Int32)), .val (.int (3 : Int32)), .val (.int (1 : Int32)), .unset, .unset, .unset, .unset, .unset, .unset, .unset] [(.ref aR)]) _
  refine own_go (fun t_ k_ => XS.iload X45.here hx rfl (hb hby d4_12) rfl k_) ?_
  show own_G p.tables e below T45 (mkF m 14 #[.val (.ref a1), .val (.ref ar), .val (.int (0 : Int32)), .val (.int (3 : Int32)), .val (.int (1 : Int32)), .unset, .unset, .unset, .unset, .unset, .unset, .unset] [(.int (1 : Int32)), (.ref aR)]) _
  obtain ⟨cl46, Ar46, -, S46, M46, H46, -⟩ := id V_refused
  have hin46_14 : ¬ ((1 : Int32) < 0 ∨ cl46.slots.size ≤ ((1 : Int32)).toNatClampNeg) := inb_of S46 ⟨by decide, by decide⟩
  refine own_go (fun t_ k_ => X45.iaload hx (j := (1 : Int32)) (v := (.int R1)) (by rw [e45]; exact Ar46.1) (State.isArrayOf_alike hZ.alike Ar46.2.1) Ar46.2.2 hin46_14 (H46.at hin46_14 rfl) (g := (mkF m 14 #[.val (.ref a1), .val (.ref ar), .val (.int (0 : Int32)), .val (.int (3 : Int32)), .val (.int (1 : Int32)), .unset, .unset, .unset, .unset, .unset, .unset, .unset] [(.int (1 : Int32)), (.ref aR)])) rfl rfl (hb hby d4_14) _ k_) ?_
  show own_G p.tables e below T45 (mkF m 15 #[.val (.ref a1), .val (.ref ar), .val (.int (0 : Int32)), .val (.int (3 : Int32)), .val (.int (1 : Int32)), .unset, .unset, .unset, .unset, .unset, .unset, .unset] [(.int R1)]) _
  refine own_go (fun t_ k_ => XS.istore X45.here hx rfl (hb hby d4_15) rfl (l' := #[.val (.ref a1), .val (.ref ar), .val (.int (0 : Int32)), .val (.int (3 : Int32)), .val (.int (1 : Int32)), .val (.int R1), .unset, .unset, .unset, .unset, .unset, .unset]) rfl k_) ?_
  show own_G p.tables e below T45 (mkF m 17 #[.val (.ref a1), .val (.ref ar), .val (.int (0 : Int32)), .val (.int (3 : Int32)), .val (.int (1 : Int32)), .val (.int R1), .unset, .unset, .unset, .unset, .unset, .unset] []) _
  refine own_go (fun t_ k_ => XS.aloadN X45.here hx rfl (hb hby d4_17) rfl rfl k_) ?_
  show own_G p.tables e below T45 (mkF m 18 #[.val (.ref a1), .val (.ref ar), .val (.int (0 : Int32)), .val (.int (3 : Int32)), .val (.int (1 : Int32)), .val (.int R1), .unset, .unset, .unset, .unset, .unset, .unset] [(.ref a1)]) _
  obtain ⟨T47, X47, e47, st47⟩ := getF X45 hx hZ hown (host := "") (Or.inl (hw _ (List.mem_of_getElem? (i := 14) rfl))) Via.refl e45 F_started (g := (mkF m 18 #[.val (.ref a1), .val (.ref ar), .val (.int (0 : Int32)), .val (.int (3 : Int32)), .val (.int (1 : Int32)), .val (.int R1), .unset, .unset, .unset, .unset, .unset, .unset] [(.ref a1)])) rfl rfl (hb hby d4_18)
  refine own_go st47 ?_
  show own_G p.tables e below T47 (mkF m 21 #[.val (.ref a1), .val (.ref ar), .val (.int (0 : Int32)), .val (.int (3 : Int32)), .val (.int (1 : Int32)), .val (.int R1), .unset, .unset, .unset, .unset, .unset, .unset] [(.ref aS)]) _
  refine own_go (fun t_ k_ => XS.iload X47.here hx rfl (hb hby d4_21) rfl k_) ?_
  show own_G p.tables e below T47 (mkF m 23 #[.val (.ref a1), .val (.ref ar), .val (.int (0 : Int32)), .val (.int (3 : Int32)), .val (.int (1 : Int32)), .val (.int R1), .unset, .unset, .unset, .unset, .unset, .unset] [(.int (1 : Int32)), (.ref aS)]) _
  obtain ⟨cl48, Ar48, -, S48, M48, H48, -⟩ := id V_started
  have hin48_23 : ¬ ((1 : Int32) < 0 ∨ cl48.slots.size ≤ ((1 : Int32)).toNatClampNeg) := inb_of S48 ⟨by decide, by decide⟩
  refine own_go (fun t_ k_ => X47.baloadBooleans hx (j := (1 : Int32)) (v := (.int S1)) (by rw [e47]; exact Ar48.1) (State.isArrayOf_alike hZ.alike Ar48.2.1) Ar48.2.2 hin48_23 (H48.at hin48_23 rfl) (g := (mkF m 23 #[.val (.ref a1), .val (.ref ar), .val (.int (0 : Int32)), .val (.int (3 : Int32)), .val (.int (1 : Int32)), .val (.int R1), .unset, .unset, .unset, .unset, .unset, .unset] [(.int (1 : Int32)), (.ref aS)])) rfl rfl (hb hby d4_23) _ k_) ?_
  show own_G p.tables e below T47 (mkF m 24 #[.val (.ref a1), .val (.ref ar), .val (.int (0 : Int32)), .val (.int (3 : Int32)), .val (.int (1 : Int32)), .val (.int R1), .unset, .unset, .unset, .unset, .unset, .unset] [(.int S1)]) _
  refine own_go (fun t_ k_ => XS.istore X47.here hx rfl (hb hby d4_24) rfl (l' := #[.val (.ref a1), .val (.ref ar), .val (.int (0 : Int32)), .val (.int (3 : Int32)), .val (.int (1 : Int32)), .val (.int R1), .val (.int S1), .unset, .unset, .unset, .unset, .unset]) rfl k_) ?_
  show own_G p.tables e below T47 (mkF m 26 #[.val (.ref a1), .val (.ref ar), .val (.int (0 : Int32)), .val (.int (3 : Int32)), .val (.int (1 : Int32)), .val (.int R1), .val (.int S1), .unset, .unset, .unset, .unset, .unset] []) _
  refine own_go (fun t_ k_ => XS.aloadN X47.here hx rfl (hb hby d4_26) rfl rfl k_) ?_
  show own_G p.tables e below T47 (mkF m 27 #[.val (.ref a1), .val (.ref ar), .val (.int (0 : Int32)), .val (.int (3 : Int32)), .val (.int (1 : Int32)), .val (.int R1), .val (.int S1), .unset, .unset, .unset, .unset, .unset] [(.ref a1)]) _
  obtain ⟨T49, X49, e49, st49⟩ := getF X47 hx hZ hown (host := "") (Or.inl (hw _ (List.mem_of_getElem? (i := 16) rfl))) Via.refl e47 F_pending (g := (mkF m 27 #[.val (.ref a1), .val (.ref ar), .val (.int (0 : Int32)), .val (.int (3 : Int32)), .val (.int (1 : Int32)), .val (.int R1), .val (.int S1), .unset, .unset, .unset, .unset, .unset] [(.ref a1)])) rfl rfl (hb hby d4_27)
  refine own_go st49 ?_
  show own_G p.tables e below T49 (mkF m 30 #[.val (.ref a1), .val (.ref ar), .val (.int (0 : Int32)), .val (.int (3 : Int32)), .val (.int (1 : Int32)), .val (.int R1), .val (.int S1), .unset, .unset, .unset, .unset, .unset] [(.ref aD)]) _
  refine own_go (fun t_ k_ => XS.iload X49.here hx rfl (hb hby d4_30) rfl k_) ?_
  show own_G p.tables e below T49 (mkF m 32 #[.val (.ref a1), .val (.ref ar), .val (.int (0 : Int32)), .val (.int (3 : Int32)), .val (.int (1 : Int32)), .val (.int R1), .val (.int S1), .unset, .unset, .unset, .unset, .unset] [(.int (1 : Int32)), (.ref aD)]) _
  obtain ⟨cl50, Ar50, -, S50, M50, H50, -⟩ := id V_pending
  have hin50_32 : ¬ ((1 : Int32) < 0 ∨ cl50.slots.size ≤ ((1 : Int32)).toNatClampNeg) := inb_of S50 ⟨by decide, by decide⟩
  refine own_go (fun t_ k_ => X49.iaload hx (j := (1 : Int32)) (v := (.int D1)) (by rw [e49]; exact Ar50.1) (State.isArrayOf_alike hZ.alike Ar50.2.1) Ar50.2.2 hin50_32 (H50.at hin50_32 rfl) (g := (mkF m 32 #[.val (.ref a1), .val (.ref ar), .val (.int (0 : Int32)), .val (.int (3 : Int32)), .val (.int (1 : Int32)), .val (.int R1), .val (.int S1), .unset, .unset, .unset, .unset, .unset] [(.int (1 : Int32)), (.ref aD)])) rfl rfl (hb hby d4_32) _ k_) ?_
  show own_G p.tables e below T49 (mkF m 33 #[.val (.ref a1), .val (.ref ar), .val (.int (0 : Int32)), .val (.int (3 : Int32)), .val (.int (1 : Int32)), .val (.int R1), .val (.int S1), .unset, .unset, .unset, .unset, .unset] [(.int D1)]) _
  refine own_go (fun t_ k_ => XS.istore X49.here hx rfl (hb hby d4_33) rfl (l' := #[.val (.ref a1), .val (.ref ar), .val (.int (0 : Int32)), .val (.int (3 : Int32)), .val (.int (1 : Int32)), .val (.int R1), .val (.int S1), .val (.int D1), .unset, .unset, .unset, .unset]) rfl k_) ?_
  show own_G p.tables e below T49 (mkF m 35 #[.val (.ref a1), .val (.ref ar), .val (.int (0 : Int32)), .val (.int (3 : Int32)), .val (.int (1 : Int32)), .val (.int R1), .val (.int S1), .val (.int D1), .unset, .unset, .unset, .unset] []) _
  refine own_go (fun t_ k_ => XS.iloadN X49.here hx rfl (hb hby d4_35) rfl k_) ?_
  show own_G p.tables e below T49 (mkF m 36 #[.val (.ref a1), .val (.ref ar), .val (.int (0 : Int32)), .val (.int (3 : Int32)), .val (.int (1 : Int32)), .val (.int R1), .val (.int S1), .val (.int D1), .unset, .unset, .unset, .unset] [(.int (0 : Int32))]) _
  refine own_go (fun t_ k_ => XS.iloadN X49.here hx rfl (hb hby d4_36) rfl k_) ?_
  show own_G p.tables e below T49 (mkF m 37 #[.val (.ref a1), .val (.ref ar), .val (.int (0 : Int32)), .val (.int (3 : Int32)), .val (.int (1 : Int32)), .val (.int R1), .val (.int S1), .val (.int D1), .unset, .unset, .unset, .unset] [(.int (3 : Int32)), (.int (0 : Int32))]) _
  refine own_go (fun t_ k_ => XS.iadd X49.here hx rfl (hb hby d4_37) rfl k_) ?_
  show own_G p.tables e below T49 (mkF m 38 #[.val (.ref a1), .val (.ref ar), .val (.int (0 : Int32)), .val (.int (3 : Int32)), .val (.int (1 : Int32)), .val (.int R1), .val (.int S1), .val (.int D1), .unset, .unset, .unset, .unset] [(.int (3 : Int32))]) _
  refine own_go (fun t_ k_ => XS.istore X49.here hx rfl (hb hby d4_38) rfl (l' := #[.val (.ref a1), .val (.ref ar), .val (.int (0 : Int32)), .val (.int (3 : Int32)), .val (.int (1 : Int32)), .val (.int R1), .val (.int S1), .val (.int D1), .val (.int (3 : Int32)), .unset, .unset, .unset]) rfl k_) ?_
  show own_G p.tables e below T49 (mkF m 40 #[.val (.ref a1), .val (.ref ar), .val (.int (0 : Int32)), .val (.int (3 : Int32)), .val (.int (1 : Int32)), .val (.int R1), .val (.int S1), .val (.int D1), .val (.int (3 : Int32)), .unset, .unset, .unset] []) _
  refine own_go (fun t_ k_ => XS.iloadN X49.here hx rfl (hb hby d4_40) rfl k_) ?_
  show own_G p.tables e below T49 (mkF m 41 #[.val (.ref a1), .val (.ref ar), .val (.int (0 : Int32)), .val (.int (3 : Int32)), .val (.int (1 : Int32)), .val (.int R1), .val (.int S1), .val (.int D1), .val (.int (3 : Int32)), .unset, .unset, .unset] [(.int (0 : Int32))]) _
  refine own_go (fun t_ k_ => XS.istore X49.here hx rfl (hb hby d4_41) rfl (l' := #[.val (.ref a1), .val (.ref ar), .val (.int (0 : Int32)), .val (.int (3 : Int32)), .val (.int (1 : Int32)), .val (.int R1), .val (.int S1), .val (.int D1), .val (.int (3 : Int32)), .val (.int (0 : Int32)), .unset, .unset]) rfl k_) ?_
  show own_G p.tables e below T49 (mkF m 43 #[.val (.ref a1), .val (.ref ar), .val (.int (0 : Int32)), .val (.int (3 : Int32)), .val (.int (1 : Int32)), .val (.int R1), .val (.int S1), .val (.int D1), .val (.int (3 : Int32)), .val (.int (0 : Int32)), .unset, .unset] []) _
  exact turn0 _ _ _ _ _ _ _ X49 e49 N0 One.u One.u hst rfl
theorem ef_4n1d1 (m : MethodId) (a1 : Addr) (ar : Addr) : entryFrame m #[(.ref a1), (.ref ar), (.int (0 : Int32)), (.int (1 : Int32))] 12 = mkF m 0 #[.val (.ref a1), .val (.ref ar), .val (.int (0 : Int32)), .val (.int (1 : Int32)), .unset, .unset, .unset, .unset, .unset, .unset, .unset, .unset] [] := by first | (simp [entryFrame, mkF, argsToLocals, Value.category]; done) | rfl
def Q4n1d1 (Z : State) (a1 : Addr) (ar : Addr) (aR aS aD : Addr) (kR kS kD : ClassId) (R0 R1 S0 S1 D0 D1 : Int32) (ka : ClassId) (c0 : Int32) (aP : Addr) (clP : Cell) (h0 : Heap) (n0 : Nat) (v : Option Value) (h : Heap) (L : List Loc) : Prop := v = none ∧ Fr n0 L ∧ Keep h0 h [aR, aS, aD] ∧ Arv Z h aR kR .int (8 : Int32) [(.int (own_run [c0] (R0, S0, D0)).1), (.int R1), (.int (0 : Int32)), (.int (0 : Int32)), (.int (0 : Int32)), (.int (0 : Int32)), (.int (0 : Int32)), (.int (0 : Int32))] (.int (0 : Int32)) ∧ Arv Z h aS kS .boolean (8 : Int32) [(.int (own_run [c0] (R0, S0, D0)).2.1), (.int S1), (.int (0 : Int32)), (.int (0 : Int32)), (.int (0 : Int32)), (.int (0 : Int32)), (.int (0 : Int32)), (.int (0 : Int32))] (.int (0 : Int32)) ∧ Arv Z h aD kD .int (8 : Int32) [(.int (own_run [c0] (R0, S0, D0)).2.2), (.int D1), (.int (0 : Int32)), (.int (0 : Int32)), (.int (0 : Int32)), (.int (0 : Int32)), (.int (0 : Int32)), (.int (0 : Int32))] (.int (0 : Int32))
set_option maxRecDepth 65536 in
set_option maxHeartbeats 40000000 in
theorem rm4n1d1 (l : Launch) (Z : State) (a0 : Array Value) (hw : ∀ d ∈ tables_1, d.before a0 Z = true) (ws : List Jvm.Cond) (a1 : Addr) (ar : Addr) (aR aS aD : Addr) (kR kS kD : ClassId) (R0 R1 S0 S1 D0 D1 : Int32) (ka : ClassId) (c0 : Int32) (aP : Addr) (clP : Cell) (h0 : Heap) (n0 : Nat) (Z0 : n0 ≤ h0.size) (S_P : Sta Z h0 "com/example/einzug/einzug/rules/PermittedCharacters" "PERMITTED" "[Z" (.ref aP)) (Ar_P : Arr Z h0 aP clP .boolean) (sz_P : clP.slots.size = 256) (tab_P : ∀ k, k < 256 → clP.slots[k]? = some (.int (own_perm k))) (E1 : Exa Z h0 a1 "com/example/einzug/einzug/core/TextCharacters") (F_depth : Fld Z h0 a1 "com/example/einzug/einzug/core/TextCharacters" "depth" "I" (.int (1 : Int32))) (F_refused : Fld Z h0 a1 "com/example/einzug/einzug/core/TextCharacters" "refused" "[I" (.ref aR)) (F_started : Fld Z h0 a1 "com/example/einzug/einzug/core/TextCharacters" "started" "[Z" (.ref aS)) (F_pending : Fld Z h0 a1 "com/example/einzug/einzug/core/TextCharacters" "pending" "[I" (.ref aD)) (V_refused : Arv Z h0 aR kR .int (8 : Int32) [(.int R0), (.int R1), (.int (0 : Int32)), (.int (0 : Int32)), (.int (0 : Int32)), (.int (0 : Int32)), (.int (0 : Int32)), (.int (0 : Int32))] (.int (0 : Int32))) (V_started : Arv Z h0 aS kS .boolean (8 : Int32) [(.int S0), (.int S1), (.int (0 : Int32)), (.int (0 : Int32)), (.int (0 : Int32)), (.int (0 : Int32)), (.int (0 : Int32)), (.int (0 : Int32))] (.int (0 : Int32))) (V_pending : Arv Z h0 aD kD .int (8 : Int32) [(.int D0), (.int D1), (.int (0 : Int32)), (.int (0 : Int32)), (.int (0 : Int32)), (.int (0 : Int32)), (.int (0 : Int32)), (.int (0 : Int32))] (.int (0 : Int32))) (nRS : aR ≠ aS) (nRD : aR ≠ aD) (nSD : aS ≠ aD) (n1R : a1 ≠ aR) (n1S : a1 ≠ aS) (n1D : a1 ≠ aD) (geR : n0 ≤ aR) (geS : n0 ≤ aS) (geD : n0 ≤ aD) (V_ar : Arv Z h0 ar ka .char (1 : Int32) [(.int c0)] (.int (0 : Int32))) (hst : S0 = 0 ∨ S0 = 1) (hc_c0 : ¬ (255 : Int32) < c0) :
    MetFree l (⟨"com/example/einzug/einzug/core/TextCharacters", "characters", "([CII)V"⟩ : MethodName) (head1 (Jvm.Cond.code (⟨"com/example/einzug/einzug/core/TextCharacters", "characters", "([CII)V"⟩ : MethodName) prog_145_method_3_code 12 none :: ws) ({ frames := 3, cells := 0, slots := 0, locals := 42 } : Room)) (fun a U => a = #[(.ref a1), (.ref ar), (.int (0 : Int32)), (.int (1 : Int32))] ∧ Z.Warmed39 U.vm ∧ U.heap = h0) (fun _ _ _ _ _ => True) (fun _ U o U' => ∃ v L, o = .returned v ∧ Q4n1d1 Z a1 ar aR aS aD kR kS kD R0 R1 S0 S1 D0 D1 ka c0 aP clP h0 n0 v U'.heap L ∧ FrameEnd U o U' L ({ frames := 3, cells := 0, slots := 0, locals := 42 } : Room).cells ({ frames := 3, cells := 0, slots := 0, locals := 42 } : Room).slots) := by
  refine MetFree.of_bodySF (plainFor_of_name own_pn4) hisR ?_
  intro p e s m args below meth c s₁ Bd hml0 hP hK
  obtain ⟨rfl, hZ, hh⟩ := hP
  have hx := Bd.exec
  have hby := Bd.bytes
  have hml : c.maxLocals = 12 := hml0
  have hown : s.vm.findClass "com/example/einzug/einzug/core/TextCharacters" = some m.cls := findClass_of_methodNamed Bd.named
  have hnm := (name_of_methodNamed Bd.named Bd.method).1
  have X0 : Stand p l e ({ frames := 3, cells := 0, slots := 0, locals := 42 } : Room) s m #[(.ref a1), (.ref ar), (.int (0 : Int32)), (.int (1 : Int32))] below meth c s₁ [] 0 0 := Stand.of_body Bd
  have e0 : s₁.heap = h0 := by rw [← hh, Bd.state]; rfl
  have N0 := Fr.nil n0
  refine own_top (Q := Q4n1d1 Z a1 ar aR aS aD kR kS kD R0 R1 S0 S1 D0 D1 ka c0 aP clP h0 n0) (ef_4n1d1 m a1 ar) ?_
  obtain ⟨clA, ArA, -, SzA, MzA, HA, -⟩ := V_ar
  have hinA0 : ¬ ((0 : Int32) < 0 ∨ clA.slots.size ≤ (0 : Int32).toNatClampNeg) := inb_of SzA ⟨by decide, by decide⟩
  have hatA0 : clA.slots[(0 : Int32).toNatClampNeg]? = some (.int c0) := HA.at hinA0 rfl
  have exit : ∀ (i9 : Int32), ∀ (r st' pd : Int32) (s10 s11 : Slot) (Tt : State) (locs : List Loc), Stand p l e ({ frames := 3, cells := 0, slots := 0, locals := 42 } : Room) s m #[(.ref a1), (.ref ar), (.int (0 : Int32)), (.int (1 : Int32))] below meth c Tt locs 0 0 → Tt.heap = h0 → Fr n0 locs → One s10 → One s11 → (st' = 0 ∨ st' = 1) → (own_run [c0] (R0, S0, D0)) = (r, st', pd) → own_G p.tables e below Tt (mkF m 151 #[.val (.ref a1), .val (.ref ar), .val (.int (0 : Int32)), .val (.int (1 : Int32)), .val (.int (0 : Int32)), .val (.int r), .val (.int st'), .val (.int pd), .val (.int (1 : Int32)), .val (.int i9), s10, s11] []) (own_P below s (Q4n1d1 Z a1 ar aR aS aD kR kS kD R0 R1 S0 S1 D0 D1 ka c0 aP clP h0 n0) (({ frames := 3, cells := 0, slots := 0, locals := 42 } : Room)).cells (({ frames := 3, cells := 0, slots := 0, locals := 42 } : Room)).slots) := by
    intro i9
    intro r st' pd s10 s11 Tt locs Xt et Nt h10 h11 hs hrun
    show own_G p.tables e below Tt (mkF m 151 #[.val (.ref a1), .val (.ref ar), .val (.int (0 : Int32)), .val (.int (1 : Int32)), .val (.int (0 : Int32)), .val (.int r), .val (.int st'), .val (.int pd), .val (.int (1 : Int32)), .val (.int i9), s10, s11] []) _
    refine own_go (fun t_ k_ => XS.aloadN Xt.here hx rfl (hb hby d4_151) rfl rfl k_) ?_
    show own_G p.tables e below Tt (mkF m 152 #[.val (.ref a1), .val (.ref ar), .val (.int (0 : Int32)), .val (.int (1 : Int32)), .val (.int (0 : Int32)), .val (.int r), .val (.int st'), .val (.int pd), .val (.int (1 : Int32)), .val (.int i9), s10, s11] [(.ref a1)]) _
    obtain ⟨T1, X1, e1, st1⟩ := getF Xt hx hZ hown (host := "") (Or.inl (hw _ (List.mem_of_getElem? (i := 11) rfl))) Via.refl et F_refused (g := (mkF m 152 #[.val (.ref a1), .val (.ref ar), .val (.int (0 : Int32)), .val (.int (1 : Int32)), .val (.int (0 : Int32)), .val (.int r), .val (.int st'), .val (.int pd), .val (.int (1 : Int32)), .val (.int i9), s10, s11] [(.ref a1)])) rfl rfl (hb hby d4_152)
    refine own_go st1 ?_
    show own_G p.tables e below T1 (mkF m 155 #[.val (.ref a1), .val (.ref ar), .val (.int (0 : Int32)), .val (.int (1 : Int32)), .val (.int (0 : Int32)), .val (.int r), .val (.int st'), .val (.int pd), .val (.int (1 : Int32)), .val (.int i9), s10, s11] [(.ref aR)]) _
    refine own_go (fun t_ k_ => XS.iload X1.here hx rfl (hb hby d4_155) rfl k_) ?_
    show own_G p.tables e below T1 (mkF m 157 #[.val (.ref a1), .val (.ref ar), .val (.int (0 : Int32)), .val (.int (1 : Int32)), .val (.int (0 : Int32)), .val (.int r), .val (.int st'), .val (.int pd), .val (.int (1 : Int32)), .val (.int i9), s10, s11] [(.int (0 : Int32)), (.ref aR)]) _
    refine own_go (fun t_ k_ => XS.iload X1.here hx rfl (hb hby d4_157) rfl k_) ?_
    show own_G p.tables e below T1 (mkF m 159 #[.val (.ref a1), .val (.ref ar), .val (.int (0 : Int32)), .val (.int (1 : Int32)), .val (.int (0 : Int32)), .val (.int r), .val (.int st'), .val (.int pd), .val (.int (1 : Int32)), .val (.int i9), s10, s11] [(.int r), (.int (0 : Int32)), (.ref aR)]) _
    obtain ⟨cl2, Ar2, q2, S2, M2, H2, G2⟩ := id V_refused
    have hin2 : ¬ ((0 : Int32) < 0 ∨ cl2.slots.size ≤ ((0 : Int32)).toNatClampNeg) := inb_of S2 ⟨by decide, by decide⟩
    obtain ⟨T2, h2, X2, e2, W2, st2⟩ := stI X1 hx hZ e1 Ar2 (j := (0 : Int32)) hin2 (g := (mkF m 159 #[.val (.ref a1), .val (.ref ar), .val (.int (0 : Int32)), .val (.int (1 : Int32)), .val (.int (0 : Int32)), .val (.int r), .val (.int st'), .val (.int pd), .val (.int (1 : Int32)), .val (.int i9), s10, s11] [(.int r), (.int (0 : Int32)), (.ref aR)])) rfl rfl (hb hby d4_159)
    have N2 := Fr.snoc X2 Nt geR
    have V2 : Arv Z h2 aR kR .int (8 : Int32) [(.int r), (.int R1), (.int (0 : Int32)), (.int (0 : Int32)), (.int (0 : Int32)), (.int (0 : Int32)), (.int (0 : Int32)), (.int (0 : Int32))] (.int (0 : Int32)) := by
      have q := Arv.set Ar2 q2 S2 M2 H2 G2 rfl W2 0 rfl (Nat.le_of_ble_eq_true rfl)
      exact q
    refine own_go st2 ?_
    show own_G p.tables e below T2 (mkF m 160 #[.val (.ref a1), .val (.ref ar), .val (.int (0 : Int32)), .val (.int (1 : Int32)), .val (.int (0 : Int32)), .val (.int r), .val (.int st'), .val (.int pd), .val (.int (1 : Int32)), .val (.int i9), s10, s11] []) _
    refine own_go (fun t_ k_ => XS.aloadN X2.here hx rfl (hb hby d4_160) rfl rfl k_) ?_
    show own_G p.tables e below T2 (mkF m 161 #[.val (.ref a1), .val (.ref ar), .val (.int (0 : Int32)), .val (.int (1 : Int32)), .val (.int (0 : Int32)), .val (.int r), .val (.int st'), .val (.int pd), .val (.int (1 : Int32)), .val (.int i9), s10, s11] [(.ref a1)]) _
    have f3 : Fld Z h2 a1 "com/example/einzug/einzug/core/TextCharacters" "started" "[Z" (.ref aS) := (F_started.other W2 (Or.inl n1R))
    obtain ⟨T4, X4, e4, st4⟩ := getF X2 hx hZ hown (host := "") (Or.inl (hw _ (List.mem_of_getElem? (i := 14) rfl))) Via.refl e2 f3 (g := (mkF m 161 #[.val (.ref a1), .val (.ref ar), .val (.int (0 : Int32)), .val (.int (1 : Int32)), .val (.int (0 : Int32)), .val (.int r), .val (.int st'), .val (.int pd), .val (.int (1 : Int32)), .val (.int i9), s10, s11] [(.ref a1)])) rfl rfl (hb hby d4_161)
    refine own_go st4 ?_
    show own_G p.tables e below T4 (mkF m 164 #[.val (.ref a1), .val (.ref ar), .val (.int (0 : Int32)), .val (.int (1 : Int32)), .val (.int (0 : Int32)), .val (.int r), .val (.int st'), .val (.int pd), .val (.int (1 : Int32)), .val (.int i9), s10, s11] [(.ref aS)]) _
    refine own_go (fun t_ k_ => XS.iload X4.here hx rfl (hb hby d4_164) rfl k_) ?_
    show own_G p.tables e below T4 (mkF m 166 #[.val (.ref a1), .val (.ref ar), .val (.int (0 : Int32)), .val (.int (1 : Int32)), .val (.int (0 : Int32)), .val (.int r), .val (.int st'), .val (.int pd), .val (.int (1 : Int32)), .val (.int i9), s10, s11] [(.int (0 : Int32)), (.ref aS)]) _
    refine own_go (fun t_ k_ => XS.iload X4.here hx rfl (hb hby d4_166) rfl k_) ?_
    show own_G p.tables e below T4 (mkF m 168 #[.val (.ref a1), .val (.ref ar), .val (.int (0 : Int32)), .val (.int (1 : Int32)), .val (.int (0 : Int32)), .val (.int r), .val (.int st'), .val (.int pd), .val (.int (1 : Int32)), .val (.int i9), s10, s11] [(.int st'), (.int (0 : Int32)), (.ref aS)]) _
    have f5 : Arv Z h2 aS kS .boolean (8 : Int32) [(.int S0), (.int S1), (.int (0 : Int32)), (.int (0 : Int32)), (.int (0 : Int32)), (.int (0 : Int32)), (.int (0 : Int32)), (.int (0 : Int32))] (.int (0 : Int32)) := (V_started.other W2 (Ne.symm nRS))
    obtain ⟨cl6, Ar6, q6, S6, M6, H6, G6⟩ := id f5
    have hin6 : ¬ ((0 : Int32) < 0 ∨ cl6.slots.size ≤ ((0 : Int32)).toNatClampNeg) := inb_of S6 ⟨by decide, by decide⟩
    obtain ⟨T6, h6, X6, e6, W6, st6⟩ := stZ X4 hx hZ e4 Ar6 (j := (0 : Int32)) hin6 (g := (mkF m 168 #[.val (.ref a1), .val (.ref ar), .val (.int (0 : Int32)), .val (.int (1 : Int32)), .val (.int (0 : Int32)), .val (.int r), .val (.int st'), .val (.int pd), .val (.int (1 : Int32)), .val (.int i9), s10, s11] [(.int st'), (.int (0 : Int32)), (.ref aS)])) rfl rfl (hb hby d4_168)
    have N6 := Fr.snoc X6 N2 geS
    have V6 : Arv Z h6 aS kS .boolean (8 : Int32) [(.int st'), (.int S1), (.int (0 : Int32)), (.int (0 : Int32)), (.int (0 : Int32)), (.int (0 : Int32)), (.int (0 : Int32)), (.int (0 : Int32))] (.int (0 : Int32)) := by
      have q := Arv.set Ar6 q6 S6 M6 H6 G6 (fits_nar_bool _) W6 0 rfl (Nat.le_of_ble_eq_true rfl)
      rw [own_narb hs] at q
      exact q
    refine own_go st6 ?_
    show own_G p.tables e below T6 (mkF m 169 #[.val (.ref a1), .val (.ref ar), .val (.int (0 : Int32)), .val (.int (1 : Int32)), .val (.int (0 : Int32)), .val (.int r), .val (.int st'), .val (.int pd), .val (.int (1 : Int32)), .val (.int i9), s10, s11] []) _
    refine own_go (fun t_ k_ => XS.aloadN X6.here hx rfl (hb hby d4_169) rfl rfl k_) ?_
    show own_G p.tables e below T6 (mkF m 170 #[.val (.ref a1), .val (.ref ar), .val (.int (0 : Int32)), .val (.int (1 : Int32)), .val (.int (0 : Int32)), .val (.int r), .val (.int st'), .val (.int pd), .val (.int (1 : Int32)), .val (.int i9), s10, s11] [(.ref a1)]) _
    have f7 : Fld Z h6 a1 "com/example/einzug/einzug/core/TextCharacters" "pending" "[I" (.ref aD) := ((F_pending.other W2 (Or.inl n1R)).other W6 (Or.inl n1S))
    obtain ⟨T8, X8, e8, st8⟩ := getF X6 hx hZ hown (host := "") (Or.inl (hw _ (List.mem_of_getElem? (i := 16) rfl))) Via.refl e6 f7 (g := (mkF m 170 #[.val (.ref a1), .val (.ref ar), .val (.int (0 : Int32)), .val (.int (1 : Int32)), .val (.int (0 : Int32)), .val (.int r), .val (.int st'), .val (.int pd), .val (.int (1 : Int32)), .val (.int i9), s10, s11] [(.ref a1)])) rfl rfl (hb hby d4_170)
    refine own_go st8 ?_
    show own_G p.tables e below T8 (mkF m 173 #[.val (.ref a1), .val (.ref ar), .val (.int (0 : Int32)), .val (.int (1 : Int32)), .val (.int (0 : Int32)), .val (.int r), .val (.int st'), .val (.int pd), .val (.int (1 : Int32)), .val (.int i9), s10, s11] [(.ref aD)]) _
    refine own_go (fun t_ k_ => XS.iload X8.here hx rfl (hb hby d4_173) rfl k_) ?_
    show own_G p.tables e below T8 (mkF m 175 #[.val (.ref a1), .val (.ref ar), .val (.int (0 : Int32)), .val (.int (1 : Int32)), .val (.int (0 : Int32)), .val (.int r), .val (.int st'), .val (.int pd), .val (.int (1 : Int32)), .val (.int i9), s10, s11] [(.int (0 : Int32)), (.ref aD)]) _
    refine own_go (fun t_ k_ => XS.iload X8.here hx rfl (hb hby d4_175) rfl k_) ?_
    show own_G p.tables e below T8 (mkF m 177 #[.val (.ref a1), .val (.ref ar), .val (.int (0 : Int32)), .val (.int (1 : Int32)), .val (.int (0 : Int32)), .val (.int r), .val (.int st'), .val (.int pd), .val (.int (1 : Int32)), .val (.int i9), s10, s11] [(.int pd), (.int (0 : Int32)), (.ref aD)]) _
    have f9 : Arv Z h6 aD kD .int (8 : Int32) [(.int D0), (.int D1), (.int (0 : Int32)), (.int (0 : Int32)), (.int (0 : Int32)), (.int (0 : Int32)), (.int (0 : Int32)), (.int (0 : Int32))] (.int (0 : Int32)) := ((V_pending.other W2 (Ne.symm nRD)).other W6 (Ne.symm nSD))
    obtain ⟨cl10, Ar10, q10, S10, M10, H10, G10⟩ := id f9
    have hin10 : ¬ ((0 : Int32) < 0 ∨ cl10.slots.size ≤ ((0 : Int32)).toNatClampNeg) := inb_of S10 ⟨by decide, by decide⟩
    obtain ⟨T10, h10, X10, e10, W10, st10⟩ := stI X8 hx hZ e8 Ar10 (j := (0 : Int32)) hin10 (g := (mkF m 177 #[.val (.ref a1), .val (.ref ar), .val (.int (0 : Int32)), .val (.int (1 : Int32)), .val (.int (0 : Int32)), .val (.int r), .val (.int st'), .val (.int pd), .val (.int (1 : Int32)), .val (.int i9), s10, s11] [(.int pd), (.int (0 : Int32)), (.ref aD)])) rfl rfl (hb hby d4_177)
    have N10 := Fr.snoc X10 N6 geD
    have V10 : Arv Z h10 aD kD .int (8 : Int32) [(.int pd), (.int D1), (.int (0 : Int32)), (.int (0 : Int32)), (.int (0 : Int32)), (.int (0 : Int32)), (.int (0 : Int32)), (.int (0 : Int32))] (.int (0 : Int32)) := by
      have q := Arv.set Ar10 q10 S10 M10 H10 G10 rfl W10 0 rfl (Nat.le_of_ble_eq_true rfl)
      exact q
    refine own_go st10 ?_
    show own_G p.tables e below T10 (mkF m 178 #[.val (.ref a1), .val (.ref ar), .val (.int (0 : Int32)), .val (.int (1 : Int32)), .val (.int (0 : Int32)), .val (.int r), .val (.int st'), .val (.int pd), .val (.int (1 : Int32)), .val (.int i9), s10, s11] []) _
    have f11 : Keep h0 h10 [aR, aS, aD] := ((((Keep.refl h0 [aR, aS, aD]).wr W2 (Or.inl (List.mem_of_getElem? (i := 0) rfl))).wr W6 (Or.inl (List.mem_of_getElem? (i := 1) rfl))).wr W10 (Or.inl (List.mem_of_getElem? (i := 2) rfl)))
    have f12 : Arv Z h10 aR kR .int (8 : Int32) [(.int r), (.int R1), (.int (0 : Int32)), (.int (0 : Int32)), (.int (0 : Int32)), (.int (0 : Int32)), (.int (0 : Int32)), (.int (0 : Int32))] (.int (0 : Int32)) := ((V2.other W6 nRS).other W10 nRD)
    have f13 : Arv Z h10 aS kS .boolean (8 : Int32) [(.int st'), (.int S1), (.int (0 : Int32)), (.int (0 : Int32)), (.int (0 : Int32)), (.int (0 : Int32)), (.int (0 : Int32)), (.int (0 : Int32))] (.int (0 : Int32)) := (V6.other W10 nSD)
    exact own_end (v := none) X10 Bd.notSynchronized (fun _ => rfl) (fun fs hr => X10.returnOut hx Bd.returns (hb hby d4_178) hr) e10 ⟨rfl, N10, f11, (by rw [hrun]; exact f12), (by rw [hrun]; exact f13), (by rw [hrun]; exact V10)⟩ (by decide) (by decide)
  have turn1 : ∀ (r st' pd : Int32) (s10 s11 : Slot) (Tt : State) (locs : List Loc), Stand p l e ({ frames := 3, cells := 0, slots := 0, locals := 42 } : Room) s m #[(.ref a1), (.ref ar), (.int (0 : Int32)), (.int (1 : Int32))] below meth c Tt locs 0 0 → Tt.heap = h0 → Fr n0 locs → One s10 → One s11 → (st' = 0 ∨ st' = 1) → (own_run [c0] (R0, S0, D0)) = own_run [] (r, st', pd) → own_G p.tables e below Tt (mkF m 43 #[.val (.ref a1), .val (.ref ar), .val (.int (0 : Int32)), .val (.int (1 : Int32)), .val (.int (0 : Int32)), .val (.int r), .val (.int st'), .val (.int pd), .val (.int (1 : Int32)), .val (.int (1 : Int32)), s10, s11] []) (own_P below s (Q4n1d1 Z a1 ar aR aS aD kR kS kD R0 R1 S0 S1 D0 D1 ka c0 aP clP h0 n0) (({ frames := 3, cells := 0, slots := 0, locals := 42 } : Room)).cells (({ frames := 3, cells := 0, slots := 0, locals := 42 } : Room)).slots) := by
    intro r st' pd s10 s11 Tt locs Xt et Nt h10 h11 hs hrun
    show own_G p.tables e below Tt (mkF m 43 #[.val (.ref a1), .val (.ref ar), .val (.int (0 : Int32)), .val (.int (1 : Int32)), .val (.int (0 : Int32)), .val (.int r), .val (.int st'), .val (.int pd), .val (.int (1 : Int32)), .val (.int (1 : Int32)), s10, s11] []) _
    refine own_go (fun t_ k_ => XS.iload Xt.here hx rfl (hb hby d4_43) rfl k_) ?_
    show own_G p.tables e below Tt (mkF m 45 #[.val (.ref a1), .val (.ref ar), .val (.int (0 : Int32)), .val (.int (1 : Int32)), .val (.int (0 : Int32)), .val (.int r), .val (.int st'), .val (.int pd), .val (.int (1 : Int32)), .val (.int (1 : Int32)), s10, s11] [(.int (1 : Int32))]) _
    refine own_go (fun t_ k_ => XS.iload Xt.here hx rfl (hb hby d4_45) rfl k_) ?_
    show own_G p.tables e below Tt (mkF m 47 #[.val (.ref a1), .val (.ref ar), .val (.int (0 : Int32)), .val (.int (1 : Int32)), .val (.int (0 : Int32)), .val (.int r), .val (.int st'), .val (.int pd), .val (.int (1 : Int32)), .val (.int (1 : Int32)), s10, s11] [(.int (1 : Int32)), (.int (1 : Int32))]) _
    refine own_go (fun t_ k_ => XS.icmpYes Xt.here hx rfl (pc0 := 47) (pc' := 151) rfl (hb hby d4_47) rfl (flt (by decide : ¬ ((1 : Int32) < (1 : Int32)))).2.1 (by decide) (by decide) k_) ?_
    show own_G p.tables e below Tt (mkF m 151 #[.val (.ref a1), .val (.ref ar), .val (.int (0 : Int32)), .val (.int (1 : Int32)), .val (.int (0 : Int32)), .val (.int r), .val (.int st'), .val (.int pd), .val (.int (1 : Int32)), .val (.int (1 : Int32)), s10, s11] []) _
    exact exit _ _ _ _ _ _ _ _ Xt et Nt h10 h11 hs hrun
  have turn0 : ∀ (r st' pd : Int32) (s10 s11 : Slot) (Tt : State) (locs : List Loc), Stand p l e ({ frames := 3, cells := 0, slots := 0, locals := 42 } : Room) s m #[(.ref a1), (.ref ar), (.int (0 : Int32)), (.int (1 : Int32))] below meth c Tt locs 0 0 → Tt.heap = h0 → Fr n0 locs → One s10 → One s11 → (st' = 0 ∨ st' = 1) → (own_run [c0] (R0, S0, D0)) = own_run [c0] (r, st', pd) → own_G p.tables e below Tt (mkF m 43 #[.val (.ref a1), .val (.ref ar), .val (.int (0 : Int32)), .val (.int (1 : Int32)), .val (.int (0 : Int32)), .val (.int r), .val (.int st'), .val (.int pd), .val (.int (1 : Int32)), .val (.int (0 : Int32)), s10, s11] []) (own_P below s (Q4n1d1 Z a1 ar aR aS aD kR kS kD R0 R1 S0 S1 D0 D1 ka c0 aP clP h0 n0) (({ frames := 3, cells := 0, slots := 0, locals := 42 } : Room)).cells (({ frames := 3, cells := 0, slots := 0, locals := 42 } : Room)).slots) := by
    intro r st' pd s10 s11 Tt locs Xt et Nt h10 h11 hs hrun
    by_cases hr1 : r = -1
    · subst hr1
      rw [own_run_in] at hrun
      show own_G p.tables e below Tt (mkF m 43 #[.val (.ref a1), .val (.ref ar), .val (.int (0 : Int32)), .val (.int (1 : Int32)), .val (.int (0 : Int32)), .val (.int (-1 : Int32)), .val (.int st'), .val (.int pd), .val (.int (1 : Int32)), .val (.int (0 : Int32)), s10, s11] []) _
      refine own_go (fun t_ k_ => XS.iload Xt.here hx rfl (hb hby d4_43) rfl k_) ?_
      show own_G p.tables e below Tt (mkF m 45 #[.val (.ref a1), .val (.ref ar), .val (.int (0 : Int32)), .val (.int (1 : Int32)), .val (.int (0 : Int32)), .val (.int (-1 : Int32)), .val (.int st'), .val (.int pd), .val (.int (1 : Int32)), .val (.int (0 : Int32)), s10, s11] [(.int (0 : Int32))]) _
      refine own_go (fun t_ k_ => XS.iload Xt.here hx rfl (hb hby d4_45) rfl k_) ?_
      show own_G p.tables e below Tt (mkF m 47 #[.val (.ref a1), .val (.ref ar), .val (.int (0 : Int32)), .val (.int (1 : Int32)), .val (.int (0 : Int32)), .val (.int (-1 : Int32)), .val (.int st'), .val (.int pd), .val (.int (1 : Int32)), .val (.int (0 : Int32)), s10, s11] [(.int (1 : Int32)), (.int (0 : Int32))]) _
      refine own_go (fun t_ k_ => XS.icmpNo Xt.here hx rfl (hb hby d4_47) rfl (tlt (by decide : ((0 : Int32) < (1 : Int32)))).2.1 k_) ?_
      show own_G p.tables e below Tt (mkF m 50 #[.val (.ref a1), .val (.ref ar), .val (.int (0 : Int32)), .val (.int (1 : Int32)), .val (.int (0 : Int32)), .val (.int (-1 : Int32)), .val (.int st'), .val (.int pd), .val (.int (1 : Int32)), .val (.int (0 : Int32)), s10, s11] []) _
      refine own_go (fun t_ k_ => XS.iload Xt.here hx rfl (hb hby d4_50) rfl k_) ?_
      show own_G p.tables e below Tt (mkF m 52 #[.val (.ref a1), .val (.ref ar), .val (.int (0 : Int32)), .val (.int (1 : Int32)), .val (.int (0 : Int32)), .val (.int (-1 : Int32)), .val (.int st'), .val (.int pd), .val (.int (1 : Int32)), .val (.int (0 : Int32)), s10, s11] [(.int (-1 : Int32))]) _
      refine own_go (fun t_ k_ => XS.iconst Xt.here hx rfl (hb hby d4_52) k_) ?_
      show own_G p.tables e below Tt (mkF m 53 #[.val (.ref a1), .val (.ref ar), .val (.int (0 : Int32)), .val (.int (1 : Int32)), .val (.int (0 : Int32)), .val (.int (-1 : Int32)), .val (.int st'), .val (.int pd), .val (.int (1 : Int32)), .val (.int (0 : Int32)), s10, s11] [(.int (-1 : Int32)), (.int (-1 : Int32))]) _
      refine own_go (fun t_ k_ => XS.icmpNo Xt.here hx rfl (hb hby d4_53) rfl (teq (by decide : ((-1 : Int32) = (-1 : Int32)))).2 k_) ?_
      show own_G p.tables e below Tt (mkF m 56 #[.val (.ref a1), .val (.ref ar), .val (.int (0 : Int32)), .val (.int (1 : Int32)), .val (.int (0 : Int32)), .val (.int (-1 : Int32)), .val (.int st'), .val (.int pd), .val (.int (1 : Int32)), .val (.int (0 : Int32)), s10, s11] []) _
      refine own_go (fun t_ k_ => XS.aloadN Xt.here hx rfl (hb hby d4_56) rfl rfl k_) ?_
      show own_G p.tables e below Tt (mkF m 57 #[.val (.ref a1), .val (.ref ar), .val (.int (0 : Int32)), .val (.int (1 : Int32)), .val (.int (0 : Int32)), .val (.int (-1 : Int32)), .val (.int st'), .val (.int pd), .val (.int (1 : Int32)), .val (.int (0 : Int32)), s10, s11] [(.ref ar)]) _
      refine own_go (fun t_ k_ => XS.iload Xt.here hx rfl (hb hby d4_57) rfl k_) ?_
      show own_G p.tables e below Tt (mkF m 59 #[.val (.ref a1), .val (.ref ar), .val (.int (0 : Int32)), .val (.int (1 : Int32)), .val (.int (0 : Int32)), .val (.int (-1 : Int32)), .val (.int st'), .val (.int pd), .val (.int (1 : Int32)), .val (.int (0 : Int32)), s10, s11] [(.int (0 : Int32)), (.ref ar)]) _
      refine own_go (fun t_ k_ => Xt.caload hx (j := (0 : Int32)) (v := (.int c0)) (by rw [et]; exact ArA.1) (State.isArrayOf_alike hZ.alike ArA.2.1) ArA.2.2 hinA0 hatA0 (g := (mkF m 59 #[.val (.ref a1), .val (.ref ar), .val (.int (0 : Int32)), .val (.int (1 : Int32)), .val (.int (0 : Int32)), .val (.int (-1 : Int32)), .val (.int st'), .val (.int pd), .val (.int (1 : Int32)), .val (.int (0 : Int32)), s10, s11] [(.int (0 : Int32)), (.ref ar)])) rfl rfl (hb hby d4_59) _ k_) ?_
      show own_G p.tables e below Tt (mkF m 60 #[.val (.ref a1), .val (.ref ar), .val (.int (0 : Int32)), .val (.int (1 : Int32)), .val (.int (0 : Int32)), .val (.int (-1 : Int32)), .val (.int st'), .val (.int pd), .val (.int (1 : Int32)), .val (.int (0 : Int32)), s10, s11] [(.int c0)]) _
      refine own_go (fun t_ k_ => XS.istoreS Xt.here hx rfl (hb hby d4_60) rfl rfl h10 k_) ?_
      show own_G p.tables e below Tt (mkF m 62 #[.val (.ref a1), .val (.ref ar), .val (.int (0 : Int32)), .val (.int (1 : Int32)), .val (.int (0 : Int32)), .val (.int (-1 : Int32)), .val (.int st'), .val (.int pd), .val (.int (1 : Int32)), .val (.int (0 : Int32)), .val (.int c0), s11] []) _
      refine own_go (fun t_ k_ => XS.iload Xt.here hx rfl (hb hby d4_62) rfl k_) ?_
      show own_G p.tables e below Tt (mkF m 64 #[.val (.ref a1), .val (.ref ar), .val (.int (0 : Int32)), .val (.int (1 : Int32)), .val (.int (0 : Int32)), .val (.int (-1 : Int32)), .val (.int st'), .val (.int pd), .val (.int (1 : Int32)), .val (.int (0 : Int32)), .val (.int c0), s11] [(.int c0)]) _
      obtain ⟨_, _, ⟨T14, L14, k14, n14⟩, -, X14, ⟨Lc14, hQ14, l14, y14, z14⟩, st14⟩ := Jvm.LawKit.callS Xt hx (y := (⟨"com/example/einzug/einzug/rules/XmlCharacters", "isSpace", "(I)Z"⟩ : MethodName)) hown (mvT hZ (hw _ (List.mem_of_getElem? (i := 30) rfl))) (mvT hZ (hw _ (List.mem_of_getElem? (i := 31) rfl))) (mvT hZ (hw _ (List.mem_of_getElem? (i := 32) rfl))) (mvT hZ (hw _ (List.mem_of_getElem? (i := 33) rfl))) (by decide) (backOf (W := 0) (rm5 l Z a0 hw [] c0 h0 n0 Z0) hZ (hw _ (List.mem_of_getElem? (i := 33) rfl)) (hw _ (List.mem_of_getElem? (i := 32) rfl)) (by decide) (by decide)) (g := (mkF m 64 #[.val (.ref a1), .val (.ref ar), .val (.int (0 : Int32)), .val (.int (1 : Int32)), .val (.int (0 : Int32)), .val (.int (-1 : Int32)), .val (.int st'), .val (.int pd), .val (.int (1 : Int32)), .val (.int (0 : Int32)), .val (.int c0), s11] [(.int c0)])) rfl (by rw [hml]; rfl) (argsL := [(.int c0)]) (rest := []) (lenOf own_pd2 rfl) rfl (by show 2 * 0 + _ ≤ _; exact Nat.le_of_eq rfl) (hb hby d4_64) (fun _ _ => ⟨rfl, et, (by decide : 0 + 0 ≤ _), (by decide : 0 + 0 ≤ _)⟩)
      dsimp only [Pt.U, Pt.locs, Pt.cells, Pt.slots] at X14 l14 y14 z14 st14 hQ14
      subst l14 y14 z14
      obtain ⟨rfl, N14q, e14⟩ := hQ14
      have N14 := Fr.app Nt N14q
      refine own_go st14 ?_
      show own_G p.tables e below T14 (mkF m 67 #[.val (.ref a1), .val (.ref ar), .val (.int (0 : Int32)), .val (.int (1 : Int32)), .val (.int (0 : Int32)), .val (.int (-1 : Int32)), .val (.int st'), .val (.int pd), .val (.int (1 : Int32)), .val (.int (0 : Int32)), .val (.int c0), s11] [(.int (own_sp c0))]) _
      by_cases hc67_15 : (own_sp c0) = (0 : Int32)
      · skip
        refine own_go (fun t_ k_ => XS.ifYes X14.here hx rfl (pc0 := 67) (pc' := 95) rfl (hb hby d4_67) rfl ((if0 _ _).trans (teq hc67_15).1) (by decide) (by decide) k_) ?_
        show own_G p.tables e below T14 (mkF m 95 #[.val (.ref a1), .val (.ref ar), .val (.int (0 : Int32)), .val (.int (1 : Int32)), .val (.int (0 : Int32)), .val (.int (-1 : Int32)), .val (.int st'), .val (.int pd), .val (.int (1 : Int32)), .val (.int (0 : Int32)), .val (.int c0), s11] []) _
        refine own_go (fun t_ k_ => XS.iload X14.here hx rfl (hb hby d4_95) rfl k_) ?_
        show own_G p.tables e below T14 (mkF m 97 #[.val (.ref a1), .val (.ref ar), .val (.int (0 : Int32)), .val (.int (1 : Int32)), .val (.int (0 : Int32)), .val (.int (-1 : Int32)), .val (.int st'), .val (.int pd), .val (.int (1 : Int32)), .val (.int (0 : Int32)), .val (.int c0), s11] [(.int pd)]) _
        refine own_go (fun t_ k_ => XS.iconst X14.here hx rfl (hb hby d4_97) k_) ?_
        show own_G p.tables e below T14 (mkF m 98 #[.val (.ref a1), .val (.ref ar), .val (.int (0 : Int32)), .val (.int (1 : Int32)), .val (.int (0 : Int32)), .val (.int (-1 : Int32)), .val (.int st'), .val (.int pd), .val (.int (1 : Int32)), .val (.int (0 : Int32)), .val (.int c0), s11] [(.int (-1 : Int32)), (.int pd)]) _
        by_cases hc98_16 : pd = (-1 : Int32)
        · skip
          refine own_go (fun t_ k_ => XS.icmpYes X14.here hx rfl (pc0 := 98) (pc' := 108) rfl (hb hby d4_98) rfl (teq hc98_16).1 (by decide) (by decide) k_) ?_
          show own_G p.tables e below T14 (mkF m 108 #[.val (.ref a1), .val (.ref ar), .val (.int (0 : Int32)), .val (.int (1 : Int32)), .val (.int (0 : Int32)), .val (.int (-1 : Int32)), .val (.int st'), .val (.int pd), .val (.int (1 : Int32)), .val (.int (0 : Int32)), .val (.int c0), s11] []) _
          refine own_go (fun t_ k_ => XS.iconst X14.here hx rfl (hb hby d4_108) k_) ?_
          show own_G p.tables e below T14 (mkF m 109 #[.val (.ref a1), .val (.ref ar), .val (.int (0 : Int32)), .val (.int (1 : Int32)), .val (.int (0 : Int32)), .val (.int (-1 : Int32)), .val (.int st'), .val (.int pd), .val (.int (1 : Int32)), .val (.int (0 : Int32)), .val (.int c0), s11] [(.int (1 : Int32))]) _
          refine own_go (fun t_ k_ => XS.istore X14.here hx rfl (hb hby d4_109) rfl (l' := #[.val (.ref a1), .val (.ref ar), .val (.int (0 : Int32)), .val (.int (1 : Int32)), .val (.int (0 : Int32)), .val (.int (-1 : Int32)), .val (.int (1 : Int32)), .val (.int pd), .val (.int (1 : Int32)), .val (.int (0 : Int32)), .val (.int c0), s11]) rfl k_) ?_
          show own_G p.tables e below T14 (mkF m 111 #[.val (.ref a1), .val (.ref ar), .val (.int (0 : Int32)), .val (.int (1 : Int32)), .val (.int (0 : Int32)), .val (.int (-1 : Int32)), .val (.int (1 : Int32)), .val (.int pd), .val (.int (1 : Int32)), .val (.int (0 : Int32)), .val (.int c0), s11] []) _
          refine own_go (fun t_ k_ => XS.aloadN X14.here hx rfl (hb hby d4_111) rfl rfl k_) ?_
          show own_G p.tables e below T14 (mkF m 112 #[.val (.ref a1), .val (.ref ar), .val (.int (0 : Int32)), .val (.int (1 : Int32)), .val (.int (0 : Int32)), .val (.int (-1 : Int32)), .val (.int (1 : Int32)), .val (.int pd), .val (.int (1 : Int32)), .val (.int (0 : Int32)), .val (.int c0), s11] [(.ref ar)]) _
          refine own_go (fun t_ k_ => XS.iload X14.here hx rfl (hb hby d4_112) rfl k_) ?_
          show own_G p.tables e below T14 (mkF m 114 #[.val (.ref a1), .val (.ref ar), .val (.int (0 : Int32)), .val (.int (1 : Int32)), .val (.int (0 : Int32)), .val (.int (-1 : Int32)), .val (.int (1 : Int32)), .val (.int pd), .val (.int (1 : Int32)), .val (.int (0 : Int32)), .val (.int c0), s11] [(.int (0 : Int32)), (.ref ar)]) _
          refine own_go (fun t_ k_ => XS.iload X14.here hx rfl (hb hby d4_114) rfl k_) ?_
          show own_G p.tables e below T14 (mkF m 116 #[.val (.ref a1), .val (.ref ar), .val (.int (0 : Int32)), .val (.int (1 : Int32)), .val (.int (0 : Int32)), .val (.int (-1 : Int32)), .val (.int (1 : Int32)), .val (.int pd), .val (.int (1 : Int32)), .val (.int (0 : Int32)), .val (.int c0), s11] [(.int (1 : Int32)), (.int (0 : Int32)), (.ref ar)]) _
          obtain ⟨_, _, ⟨T17, L17, k17, n17⟩, -, X17, ⟨Lc17, hQ17, l17, y17, z17⟩, st17⟩ := Jvm.LawKit.callS X14 hx (y := (⟨"java/lang/Character", "codePointAt", "([CII)I"⟩ : MethodName)) hown (mvT hZ (hw _ (List.mem_of_getElem? (i := 34) rfl))) (mvT hZ (hw _ (List.mem_of_getElem? (i := 35) rfl))) (mvT hZ (hw _ (List.mem_of_getElem? (i := 36) rfl))) (mvT hZ (hw _ (List.mem_of_getElem? (i := 37) rfl))) (by decide) (backOf (W := 0) (rm6 l Z a0 hw [] ar (0 : Int32) (1 : Int32) clA (1 : Int32) c0 h0 n0 Z0 ArA SzA MzA hinA0 hatA0 hc_c0 (by decide) (by decide) (by decide)) hZ (hw _ (List.mem_of_getElem? (i := 37) rfl)) (hw _ (List.mem_of_getElem? (i := 36) rfl)) (by decide) (by decide)) (g := (mkF m 116 #[.val (.ref a1), .val (.ref ar), .val (.int (0 : Int32)), .val (.int (1 : Int32)), .val (.int (0 : Int32)), .val (.int (-1 : Int32)), .val (.int (1 : Int32)), .val (.int pd), .val (.int (1 : Int32)), .val (.int (0 : Int32)), .val (.int c0), s11] [(.int (1 : Int32)), (.int (0 : Int32)), (.ref ar)])) rfl (by rw [hml]; rfl) (argsL := [(.ref ar), (.int (0 : Int32)), (.int (1 : Int32))]) (rest := []) (lenOf own_pd1 rfl) rfl (by show 2 * 0 + _ ≤ _; exact Nat.le_of_eq rfl) (hb hby d4_116) (fun _ _ => ⟨rfl, e14, (by decide : 0 + 0 ≤ _), (by decide : 0 + 0 ≤ _)⟩)
          dsimp only [Pt.U, Pt.locs, Pt.cells, Pt.slots] at X17 l17 y17 z17 st17 hQ17
          subst l17 y17 z17
          obtain ⟨rfl, N17q, e17⟩ := hQ17
          have N17 := Fr.app N14 N17q
          refine own_go st17 ?_
          show own_G p.tables e below T17 (mkF m 119 #[.val (.ref a1), .val (.ref ar), .val (.int (0 : Int32)), .val (.int (1 : Int32)), .val (.int (0 : Int32)), .val (.int (-1 : Int32)), .val (.int (1 : Int32)), .val (.int pd), .val (.int (1 : Int32)), .val (.int (0 : Int32)), .val (.int c0), s11] [(.int c0)]) _
          refine own_go (fun t_ k_ => XS.istoreS X17.here hx rfl (hb hby d4_119) rfl rfl h11 k_) ?_
          show own_G p.tables e below T17 (mkF m 121 #[.val (.ref a1), .val (.ref ar), .val (.int (0 : Int32)), .val (.int (1 : Int32)), .val (.int (0 : Int32)), .val (.int (-1 : Int32)), .val (.int (1 : Int32)), .val (.int pd), .val (.int (1 : Int32)), .val (.int (0 : Int32)), .val (.int c0), .val (.int c0)] []) _
          refine own_go (fun t_ k_ => XS.iload X17.here hx rfl (hb hby d4_121) rfl k_) ?_
          show own_G p.tables e below T17 (mkF m 123 #[.val (.ref a1), .val (.ref ar), .val (.int (0 : Int32)), .val (.int (1 : Int32)), .val (.int (0 : Int32)), .val (.int (-1 : Int32)), .val (.int (1 : Int32)), .val (.int pd), .val (.int (1 : Int32)), .val (.int (0 : Int32)), .val (.int c0), .val (.int c0)] [(.int (0 : Int32))]) _
          refine own_go (fun t_ k_ => XS.iload X17.here hx rfl (hb hby d4_123) rfl k_) ?_
          show own_G p.tables e below T17 (mkF m 125 #[.val (.ref a1), .val (.ref ar), .val (.int (0 : Int32)), .val (.int (1 : Int32)), .val (.int (0 : Int32)), .val (.int (-1 : Int32)), .val (.int (1 : Int32)), .val (.int pd), .val (.int (1 : Int32)), .val (.int (0 : Int32)), .val (.int c0), .val (.int c0)] [(.int c0), (.int (0 : Int32))]) _
          obtain ⟨_, _, ⟨T18, L18, k18, n18⟩, -, X18, ⟨Lc18, hQ18, l18, y18, z18⟩, st18⟩ := Jvm.LawKit.callS X17 hx (y := (⟨"java/lang/Character", "charCount", "(I)I"⟩ : MethodName)) hown (mvT hZ (hw _ (List.mem_of_getElem? (i := 45) rfl))) (mvT hZ (hw _ (List.mem_of_getElem? (i := 46) rfl))) (mvT hZ (hw _ (List.mem_of_getElem? (i := 36) rfl))) (mvT hZ (hw _ (List.mem_of_getElem? (i := 47) rfl))) (by decide) (backOf (W := 1) (rm9 l Z a0 hw [] c0 h0 n0 Z0 hc_c0) hZ (hw _ (List.mem_of_getElem? (i := 47) rfl)) (hw _ (List.mem_of_getElem? (i := 36) rfl)) (by decide) (by decide)) (g := (mkF m 125 #[.val (.ref a1), .val (.ref ar), .val (.int (0 : Int32)), .val (.int (1 : Int32)), .val (.int (0 : Int32)), .val (.int (-1 : Int32)), .val (.int (1 : Int32)), .val (.int pd), .val (.int (1 : Int32)), .val (.int (0 : Int32)), .val (.int c0), .val (.int c0)] [(.int c0), (.int (0 : Int32))])) rfl (by rw [hml]; rfl) (argsL := [(.int c0)]) (rest := [(.int (0 : Int32))]) (lenOf own_pd3 rfl) rfl (by show 2 * 0 + _ ≤ _; exact Nat.le_of_eq rfl) (hb hby d4_125) (fun _ _ => ⟨rfl, e17, (by decide : 0 + 0 ≤ _), (by decide : 0 + 0 ≤ _)⟩)
          dsimp only [Pt.U, Pt.locs, Pt.cells, Pt.slots] at X18 l18 y18 z18 st18 hQ18
          subst l18 y18 z18
          obtain ⟨rfl, N18q, e18⟩ := hQ18
          have N18 := Fr.app N17 N18q
          refine own_go st18 ?_
          show own_G p.tables e below T18 (mkF m 128 #[.val (.ref a1), .val (.ref ar), .val (.int (0 : Int32)), .val (.int (1 : Int32)), .val (.int (0 : Int32)), .val (.int (-1 : Int32)), .val (.int (1 : Int32)), .val (.int pd), .val (.int (1 : Int32)), .val (.int (0 : Int32)), .val (.int c0), .val (.int c0)] [(.int (1 : Int32)), (.int (0 : Int32))]) _
          refine own_go (fun t_ k_ => XS.iconst X18.here hx rfl (hb hby d4_128) k_) ?_
          show own_G p.tables e below T18 (mkF m 129 #[.val (.ref a1), .val (.ref ar), .val (.int (0 : Int32)), .val (.int (1 : Int32)), .val (.int (0 : Int32)), .val (.int (-1 : Int32)), .val (.int (1 : Int32)), .val (.int pd), .val (.int (1 : Int32)), .val (.int (0 : Int32)), .val (.int c0), .val (.int c0)] [(.int (1 : Int32)), (.int (1 : Int32)), (.int (0 : Int32))]) _
          refine own_go (fun t_ k_ => XS.isub X18.here hx rfl (hb hby d4_129) rfl k_) ?_
          show own_G p.tables e below T18 (mkF m 130 #[.val (.ref a1), .val (.ref ar), .val (.int (0 : Int32)), .val (.int (1 : Int32)), .val (.int (0 : Int32)), .val (.int (-1 : Int32)), .val (.int (1 : Int32)), .val (.int pd), .val (.int (1 : Int32)), .val (.int (0 : Int32)), .val (.int c0), .val (.int c0)] [(.int (0 : Int32)), (.int (0 : Int32))]) _
          refine own_go (fun t_ k_ => XS.iadd X18.here hx rfl (hb hby d4_130) rfl k_) ?_
          show own_G p.tables e below T18 (mkF m 131 #[.val (.ref a1), .val (.ref ar), .val (.int (0 : Int32)), .val (.int (1 : Int32)), .val (.int (0 : Int32)), .val (.int (-1 : Int32)), .val (.int (1 : Int32)), .val (.int pd), .val (.int (1 : Int32)), .val (.int (0 : Int32)), .val (.int c0), .val (.int c0)] [(.int (0 : Int32))]) _
          refine own_go (fun t_ k_ => XS.istore X18.here hx rfl (hb hby d4_131) rfl (l' := #[.val (.ref a1), .val (.ref ar), .val (.int (0 : Int32)), .val (.int (1 : Int32)), .val (.int (0 : Int32)), .val (.int (-1 : Int32)), .val (.int (1 : Int32)), .val (.int pd), .val (.int (1 : Int32)), .val (.int (0 : Int32)), .val (.int c0), .val (.int c0)]) rfl k_) ?_
          show own_G p.tables e below T18 (mkF m 133 #[.val (.ref a1), .val (.ref ar), .val (.int (0 : Int32)), .val (.int (1 : Int32)), .val (.int (0 : Int32)), .val (.int (-1 : Int32)), .val (.int (1 : Int32)), .val (.int pd), .val (.int (1 : Int32)), .val (.int (0 : Int32)), .val (.int c0), .val (.int c0)] []) _
          refine own_go (fun t_ k_ => XS.iload X18.here hx rfl (hb hby d4_133) rfl k_) ?_
          show own_G p.tables e below T18 (mkF m 135 #[.val (.ref a1), .val (.ref ar), .val (.int (0 : Int32)), .val (.int (1 : Int32)), .val (.int (0 : Int32)), .val (.int (-1 : Int32)), .val (.int (1 : Int32)), .val (.int pd), .val (.int (1 : Int32)), .val (.int (0 : Int32)), .val (.int c0), .val (.int c0)] [(.int c0)]) _
          obtain ⟨_, _, ⟨T19, L19, k19, n19⟩, -, X19, ⟨Lc19, hQ19, l19, y19, z19⟩, st19⟩ := Jvm.LawKit.callS X18 hx (y := (⟨"com/example/einzug/einzug/rules/PermittedCharacters", "isPermitted", "(I)Z"⟩ : MethodName)) hown (mvT hZ (hw _ (List.mem_of_getElem? (i := 49) rfl))) (mvT hZ (hw _ (List.mem_of_getElem? (i := 50) rfl))) (mvT hZ (hw _ (List.mem_of_getElem? (i := 51) rfl))) (mvT hZ (hw _ (List.mem_of_getElem? (i := 52) rfl))) (by decide) (backOf (W := 0) (rm10 l Z a0 hw [] c0 aP clP h0 n0 Z0 S_P Ar_P sz_P tab_P) hZ (hw _ (List.mem_of_getElem? (i := 52) rfl)) (hw _ (List.mem_of_getElem? (i := 51) rfl)) (by decide) (by decide)) (g := (mkF m 135 #[.val (.ref a1), .val (.ref ar), .val (.int (0 : Int32)), .val (.int (1 : Int32)), .val (.int (0 : Int32)), .val (.int (-1 : Int32)), .val (.int (1 : Int32)), .val (.int pd), .val (.int (1 : Int32)), .val (.int (0 : Int32)), .val (.int c0), .val (.int c0)] [(.int c0)])) rfl (by rw [hml]; rfl) (argsL := [(.int c0)]) (rest := []) (lenOf own_pd2 rfl) rfl (by show 2 * 0 + _ ≤ _; exact Nat.le_of_eq rfl) (hb hby d4_135) (fun _ _ => ⟨rfl, e18, (by decide : 0 + 0 ≤ _), (by decide : 0 + 0 ≤ _)⟩)
          dsimp only [Pt.U, Pt.locs, Pt.cells, Pt.slots] at X19 l19 y19 z19 st19 hQ19
          subst l19 y19 z19
          obtain ⟨rfl, N19q, e19⟩ := hQ19
          have N19 := Fr.app N18 N19q
          refine own_go st19 ?_
          show own_G p.tables e below T19 (mkF m 138 #[.val (.ref a1), .val (.ref ar), .val (.int (0 : Int32)), .val (.int (1 : Int32)), .val (.int (0 : Int32)), .val (.int (-1 : Int32)), .val (.int (1 : Int32)), .val (.int pd), .val (.int (1 : Int32)), .val (.int (0 : Int32)), .val (.int c0), .val (.int c0)] [(.int (own_isp c0))]) _
          by_cases hc138_20 : (own_isp c0) = (0 : Int32)
          · skip
            refine own_go (fun t_ k_ => XS.ifNo X19.here hx rfl (hb hby d4_138) rfl ((if0 _ _).trans (teq hc138_20).2) k_) ?_
            show own_G p.tables e below T19 (mkF m 141 #[.val (.ref a1), .val (.ref ar), .val (.int (0 : Int32)), .val (.int (1 : Int32)), .val (.int (0 : Int32)), .val (.int (-1 : Int32)), .val (.int (1 : Int32)), .val (.int pd), .val (.int (1 : Int32)), .val (.int (0 : Int32)), .val (.int c0), .val (.int c0)] []) _
            refine own_go (fun t_ k_ => XS.iload X19.here hx rfl (hb hby d4_141) rfl k_) ?_
            show own_G p.tables e below T19 (mkF m 143 #[.val (.ref a1), .val (.ref ar), .val (.int (0 : Int32)), .val (.int (1 : Int32)), .val (.int (0 : Int32)), .val (.int (-1 : Int32)), .val (.int (1 : Int32)), .val (.int pd), .val (.int (1 : Int32)), .val (.int (0 : Int32)), .val (.int c0), .val (.int c0)] [(.int c0)]) _
            refine own_go (fun t_ k_ => XS.istore X19.here hx rfl (hb hby d4_143) rfl (l' := #[.val (.ref a1), .val (.ref ar), .val (.int (0 : Int32)), .val (.int (1 : Int32)), .val (.int (0 : Int32)), .val (.int c0), .val (.int (1 : Int32)), .val (.int pd), .val (.int (1 : Int32)), .val (.int (0 : Int32)), .val (.int c0), .val (.int c0)]) rfl k_) ?_
            show own_G p.tables e below T19 (mkF m 145 #[.val (.ref a1), .val (.ref ar), .val (.int (0 : Int32)), .val (.int (1 : Int32)), .val (.int (0 : Int32)), .val (.int c0), .val (.int (1 : Int32)), .val (.int pd), .val (.int (1 : Int32)), .val (.int (0 : Int32)), .val (.int c0), .val (.int c0)] []) _
            refine own_go (fun t_ k_ => XS.iinc X19.here hx rfl (hb hby d4_145) rfl (l' := #[.val (.ref a1), .val (.ref ar), .val (.int (0 : Int32)), .val (.int (1 : Int32)), .val (.int (0 : Int32)), .val (.int c0), .val (.int (1 : Int32)), .val (.int pd), .val (.int (1 : Int32)), .val (.int (1 : Int32)), .val (.int c0), .val (.int c0)]) rfl k_) ?_
            show own_G p.tables e below T19 (mkF m 148 #[.val (.ref a1), .val (.ref ar), .val (.int (0 : Int32)), .val (.int (1 : Int32)), .val (.int (0 : Int32)), .val (.int c0), .val (.int (1 : Int32)), .val (.int pd), .val (.int (1 : Int32)), .val (.int (1 : Int32)), .val (.int c0), .val (.int c0)] []) _
            refine own_go (fun t_ k_ => XS.goto X19.here hx rfl (pc0 := 148) (pc' := 43) rfl (hb hby d4_148) (by decide) (by decide) k_) ?_
            show own_G p.tables e below T19 (mkF m 43 #[.val (.ref a1), .val (.ref ar), .val (.int (0 : Int32)), .val (.int (1 : Int32)), .val (.int (0 : Int32)), .val (.int c0), .val (.int (1 : Int32)), .val (.int pd), .val (.int (1 : Int32)), .val (.int (1 : Int32)), .val (.int c0), .val (.int c0)] []) _
            have hstep : own_step c0 st' pd = (c0, (1 : Int32), pd) := by unfold own_step; rw [if_pos hc67_15, if_pos hc98_16, if_pos hc138_20]
            rw [hstep] at hrun
            exact turn1 _ _ _ _ _ _ _ X19 e19 N19 (One.val rfl) (One.val rfl) (Or.inr rfl) hrun
          · skip
            refine own_go (fun t_ k_ => XS.ifYes X19.here hx rfl (pc0 := 138) (pc' := 145) rfl (hb hby d4_138) rfl ((if0 _ _).trans (feq hc138_20).2) (by decide) (by decide) k_) ?_
            show own_G p.tables e below T19 (mkF m 145 #[.val (.ref a1), .val (.ref ar), .val (.int (0 : Int32)), .val (.int (1 : Int32)), .val (.int (0 : Int32)), .val (.int (-1 : Int32)), .val (.int (1 : Int32)), .val (.int pd), .val (.int (1 : Int32)), .val (.int (0 : Int32)), .val (.int c0), .val (.int c0)] []) _
            refine own_go (fun t_ k_ => XS.iinc X19.here hx rfl (hb hby d4_145) rfl (l' := #[.val (.ref a1), .val (.ref ar), .val (.int (0 : Int32)), .val (.int (1 : Int32)), .val (.int (0 : Int32)), .val (.int (-1 : Int32)), .val (.int (1 : Int32)), .val (.int pd), .val (.int (1 : Int32)), .val (.int (1 : Int32)), .val (.int c0), .val (.int c0)]) rfl k_) ?_
            show own_G p.tables e below T19 (mkF m 148 #[.val (.ref a1), .val (.ref ar), .val (.int (0 : Int32)), .val (.int (1 : Int32)), .val (.int (0 : Int32)), .val (.int (-1 : Int32)), .val (.int (1 : Int32)), .val (.int pd), .val (.int (1 : Int32)), .val (.int (1 : Int32)), .val (.int c0), .val (.int c0)] []) _
            refine own_go (fun t_ k_ => XS.goto X19.here hx rfl (pc0 := 148) (pc' := 43) rfl (hb hby d4_148) (by decide) (by decide) k_) ?_
            show own_G p.tables e below T19 (mkF m 43 #[.val (.ref a1), .val (.ref ar), .val (.int (0 : Int32)), .val (.int (1 : Int32)), .val (.int (0 : Int32)), .val (.int (-1 : Int32)), .val (.int (1 : Int32)), .val (.int pd), .val (.int (1 : Int32)), .val (.int (1 : Int32)), .val (.int c0), .val (.int c0)] []) _
            have hstep : own_step c0 st' pd = ((-1 : Int32), (1 : Int32), pd) := by unfold own_step; rw [if_pos hc67_15, if_pos hc98_16, if_neg hc138_20]
            rw [hstep] at hrun
            exact turn1 _ _ _ _ _ _ _ X19 e19 N19 (One.val rfl) (One.val rfl) (Or.inr rfl) hrun
        · skip
          refine own_go (fun t_ k_ => XS.icmpNo X14.here hx rfl (hb hby d4_98) rfl (feq hc98_16).1 k_) ?_
          show own_G p.tables e below T14 (mkF m 101 #[.val (.ref a1), .val (.ref ar), .val (.int (0 : Int32)), .val (.int (1 : Int32)), .val (.int (0 : Int32)), .val (.int (-1 : Int32)), .val (.int st'), .val (.int pd), .val (.int (1 : Int32)), .val (.int (0 : Int32)), .val (.int c0), s11] []) _
          refine own_go (fun t_ k_ => XS.iload X14.here hx rfl (hb hby d4_101) rfl k_) ?_
          show own_G p.tables e below T14 (mkF m 103 #[.val (.ref a1), .val (.ref ar), .val (.int (0 : Int32)), .val (.int (1 : Int32)), .val (.int (0 : Int32)), .val (.int (-1 : Int32)), .val (.int st'), .val (.int pd), .val (.int (1 : Int32)), .val (.int (0 : Int32)), .val (.int c0), s11] [(.int pd)]) _
          refine own_go (fun t_ k_ => XS.istore X14.here hx rfl (hb hby d4_103) rfl (l' := #[.val (.ref a1), .val (.ref ar), .val (.int (0 : Int32)), .val (.int (1 : Int32)), .val (.int (0 : Int32)), .val (.int pd), .val (.int st'), .val (.int pd), .val (.int (1 : Int32)), .val (.int (0 : Int32)), .val (.int c0), s11]) rfl k_) ?_
          show own_G p.tables e below T14 (mkF m 105 #[.val (.ref a1), .val (.ref ar), .val (.int (0 : Int32)), .val (.int (1 : Int32)), .val (.int (0 : Int32)), .val (.int pd), .val (.int st'), .val (.int pd), .val (.int (1 : Int32)), .val (.int (0 : Int32)), .val (.int c0), s11] []) _
          refine own_go (fun t_ k_ => XS.goto X14.here hx rfl (pc0 := 105) (pc' := 145) rfl (hb hby d4_105) (by decide) (by decide) k_) ?_
          show own_G p.tables e below T14 (mkF m 145 #[.val (.ref a1), .val (.ref ar), .val (.int (0 : Int32)), .val (.int (1 : Int32)), .val (.int (0 : Int32)), .val (.int pd), .val (.int st'), .val (.int pd), .val (.int (1 : Int32)), .val (.int (0 : Int32)), .val (.int c0), s11] []) _
          refine own_go (fun t_ k_ => XS.iinc X14.here hx rfl (hb hby d4_145) rfl (l' := #[.val (.ref a1), .val (.ref ar), .val (.int (0 : Int32)), .val (.int (1 : Int32)), .val (.int (0 : Int32)), .val (.int pd), .val (.int st'), .val (.int pd), .val (.int (1 : Int32)), .val (.int (1 : Int32)), .val (.int c0), s11]) rfl k_) ?_
          show own_G p.tables e below T14 (mkF m 148 #[.val (.ref a1), .val (.ref ar), .val (.int (0 : Int32)), .val (.int (1 : Int32)), .val (.int (0 : Int32)), .val (.int pd), .val (.int st'), .val (.int pd), .val (.int (1 : Int32)), .val (.int (1 : Int32)), .val (.int c0), s11] []) _
          refine own_go (fun t_ k_ => XS.goto X14.here hx rfl (pc0 := 148) (pc' := 43) rfl (hb hby d4_148) (by decide) (by decide) k_) ?_
          show own_G p.tables e below T14 (mkF m 43 #[.val (.ref a1), .val (.ref ar), .val (.int (0 : Int32)), .val (.int (1 : Int32)), .val (.int (0 : Int32)), .val (.int pd), .val (.int st'), .val (.int pd), .val (.int (1 : Int32)), .val (.int (1 : Int32)), .val (.int c0), s11] []) _
          have hstep : own_step c0 st' pd = (pd, st', pd) := by unfold own_step; rw [if_pos hc67_15, if_neg hc98_16]
          rw [hstep] at hrun
          exact turn1 _ _ _ _ _ _ _ X14 e14 N14 (One.val rfl) h11 hs hrun
      · skip
        refine own_go (fun t_ k_ => XS.ifNo X14.here hx rfl (hb hby d4_67) rfl ((if0 _ _).trans (feq hc67_15).1) k_) ?_
        show own_G p.tables e below T14 (mkF m 70 #[.val (.ref a1), .val (.ref ar), .val (.int (0 : Int32)), .val (.int (1 : Int32)), .val (.int (0 : Int32)), .val (.int (-1 : Int32)), .val (.int st'), .val (.int pd), .val (.int (1 : Int32)), .val (.int (0 : Int32)), .val (.int c0), s11] []) _
        refine own_go (fun t_ k_ => XS.iload X14.here hx rfl (hb hby d4_70) rfl k_) ?_
        show own_G p.tables e below T14 (mkF m 72 #[.val (.ref a1), .val (.ref ar), .val (.int (0 : Int32)), .val (.int (1 : Int32)), .val (.int (0 : Int32)), .val (.int (-1 : Int32)), .val (.int st'), .val (.int pd), .val (.int (1 : Int32)), .val (.int (0 : Int32)), .val (.int c0), s11] [(.int st')]) _
        by_cases hc72_21 : st' = (0 : Int32)
        · skip
          refine own_go (fun t_ k_ => XS.ifYes X14.here hx rfl (pc0 := 72) (pc' := 145) rfl (hb hby d4_72) rfl ((if0 _ _).trans (teq hc72_21).1) (by decide) (by decide) k_) ?_
          show own_G p.tables e below T14 (mkF m 145 #[.val (.ref a1), .val (.ref ar), .val (.int (0 : Int32)), .val (.int (1 : Int32)), .val (.int (0 : Int32)), .val (.int (-1 : Int32)), .val (.int st'), .val (.int pd), .val (.int (1 : Int32)), .val (.int (0 : Int32)), .val (.int c0), s11] []) _
          refine own_go (fun t_ k_ => XS.iinc X14.here hx rfl (hb hby d4_145) rfl (l' := #[.val (.ref a1), .val (.ref ar), .val (.int (0 : Int32)), .val (.int (1 : Int32)), .val (.int (0 : Int32)), .val (.int (-1 : Int32)), .val (.int st'), .val (.int pd), .val (.int (1 : Int32)), .val (.int (1 : Int32)), .val (.int c0), s11]) rfl k_) ?_
          show own_G p.tables e below T14 (mkF m 148 #[.val (.ref a1), .val (.ref ar), .val (.int (0 : Int32)), .val (.int (1 : Int32)), .val (.int (0 : Int32)), .val (.int (-1 : Int32)), .val (.int st'), .val (.int pd), .val (.int (1 : Int32)), .val (.int (1 : Int32)), .val (.int c0), s11] []) _
          refine own_go (fun t_ k_ => XS.goto X14.here hx rfl (pc0 := 148) (pc' := 43) rfl (hb hby d4_148) (by decide) (by decide) k_) ?_
          show own_G p.tables e below T14 (mkF m 43 #[.val (.ref a1), .val (.ref ar), .val (.int (0 : Int32)), .val (.int (1 : Int32)), .val (.int (0 : Int32)), .val (.int (-1 : Int32)), .val (.int st'), .val (.int pd), .val (.int (1 : Int32)), .val (.int (1 : Int32)), .val (.int c0), s11] []) _
          have hstep : own_step c0 st' pd = ((-1 : Int32), st', pd) := by unfold own_step; rw [if_neg hc67_15, if_pos hc72_21]
          rw [hstep] at hrun
          exact turn1 _ _ _ _ _ _ _ X14 e14 N14 (One.val rfl) h11 hs hrun
        · skip
          refine own_go (fun t_ k_ => XS.ifNo X14.here hx rfl (hb hby d4_72) rfl ((if0 _ _).trans (feq hc72_21).1) k_) ?_
          show own_G p.tables e below T14 (mkF m 75 #[.val (.ref a1), .val (.ref ar), .val (.int (0 : Int32)), .val (.int (1 : Int32)), .val (.int (0 : Int32)), .val (.int (-1 : Int32)), .val (.int st'), .val (.int pd), .val (.int (1 : Int32)), .val (.int (0 : Int32)), .val (.int c0), s11] []) _
          refine own_go (fun t_ k_ => XS.iload X14.here hx rfl (hb hby d4_75) rfl k_) ?_
          show own_G p.tables e below T14 (mkF m 77 #[.val (.ref a1), .val (.ref ar), .val (.int (0 : Int32)), .val (.int (1 : Int32)), .val (.int (0 : Int32)), .val (.int (-1 : Int32)), .val (.int st'), .val (.int pd), .val (.int (1 : Int32)), .val (.int (0 : Int32)), .val (.int c0), s11] [(.int c0)]) _
          refine own_go (fun t_ k_ => XS.bipush X14.here hx rfl (hb hby d4_77) k_) ?_
          show own_G p.tables e below T14 (mkF m 79 #[.val (.ref a1), .val (.ref ar), .val (.int (0 : Int32)), .val (.int (1 : Int32)), .val (.int (0 : Int32)), .val (.int (-1 : Int32)), .val (.int st'), .val (.int pd), .val (.int (1 : Int32)), .val (.int (0 : Int32)), .val (.int c0), s11] [(.int (32 : Int32)), (.int c0)]) _
          by_cases hc79_22 : c0 = (32 : Int32)
          · skip
            refine own_go (fun t_ k_ => XS.icmpYes X14.here hx rfl (pc0 := 79) (pc' := 145) rfl (hb hby d4_79) rfl (teq hc79_22).1 (by decide) (by decide) k_) ?_
            show own_G p.tables e below T14 (mkF m 145 #[.val (.ref a1), .val (.ref ar), .val (.int (0 : Int32)), .val (.int (1 : Int32)), .val (.int (0 : Int32)), .val (.int (-1 : Int32)), .val (.int st'), .val (.int pd), .val (.int (1 : Int32)), .val (.int (0 : Int32)), .val (.int c0), s11] []) _
            refine own_go (fun t_ k_ => XS.iinc X14.here hx rfl (hb hby d4_145) rfl (l' := #[.val (.ref a1), .val (.ref ar), .val (.int (0 : Int32)), .val (.int (1 : Int32)), .val (.int (0 : Int32)), .val (.int (-1 : Int32)), .val (.int st'), .val (.int pd), .val (.int (1 : Int32)), .val (.int (1 : Int32)), .val (.int c0), s11]) rfl k_) ?_
            show own_G p.tables e below T14 (mkF m 148 #[.val (.ref a1), .val (.ref ar), .val (.int (0 : Int32)), .val (.int (1 : Int32)), .val (.int (0 : Int32)), .val (.int (-1 : Int32)), .val (.int st'), .val (.int pd), .val (.int (1 : Int32)), .val (.int (1 : Int32)), .val (.int c0), s11] []) _
            refine own_go (fun t_ k_ => XS.goto X14.here hx rfl (pc0 := 148) (pc' := 43) rfl (hb hby d4_148) (by decide) (by decide) k_) ?_
            show own_G p.tables e below T14 (mkF m 43 #[.val (.ref a1), .val (.ref ar), .val (.int (0 : Int32)), .val (.int (1 : Int32)), .val (.int (0 : Int32)), .val (.int (-1 : Int32)), .val (.int st'), .val (.int pd), .val (.int (1 : Int32)), .val (.int (1 : Int32)), .val (.int c0), s11] []) _
            have hstep : own_step c0 st' pd = ((-1 : Int32), st', pd) := by unfold own_step; rw [if_neg hc67_15, if_neg hc72_21, if_pos hc79_22]
            rw [hstep] at hrun
            exact turn1 _ _ _ _ _ _ _ X14 e14 N14 (One.val rfl) h11 hs hrun
          · skip
            refine own_go (fun t_ k_ => XS.icmpNo X14.here hx rfl (hb hby d4_79) rfl (feq hc79_22).1 k_) ?_
            show own_G p.tables e below T14 (mkF m 82 #[.val (.ref a1), .val (.ref ar), .val (.int (0 : Int32)), .val (.int (1 : Int32)), .val (.int (0 : Int32)), .val (.int (-1 : Int32)), .val (.int st'), .val (.int pd), .val (.int (1 : Int32)), .val (.int (0 : Int32)), .val (.int c0), s11] []) _
            refine own_go (fun t_ k_ => XS.iload X14.here hx rfl (hb hby d4_82) rfl k_) ?_
            show own_G p.tables e below T14 (mkF m 84 #[.val (.ref a1), .val (.ref ar), .val (.int (0 : Int32)), .val (.int (1 : Int32)), .val (.int (0 : Int32)), .val (.int (-1 : Int32)), .val (.int st'), .val (.int pd), .val (.int (1 : Int32)), .val (.int (0 : Int32)), .val (.int c0), s11] [(.int pd)]) _
            refine own_go (fun t_ k_ => XS.iconst X14.here hx rfl (hb hby d4_84) k_) ?_
            show own_G p.tables e below T14 (mkF m 85 #[.val (.ref a1), .val (.ref ar), .val (.int (0 : Int32)), .val (.int (1 : Int32)), .val (.int (0 : Int32)), .val (.int (-1 : Int32)), .val (.int st'), .val (.int pd), .val (.int (1 : Int32)), .val (.int (0 : Int32)), .val (.int c0), s11] [(.int (-1 : Int32)), (.int pd)]) _
            by_cases hc85_23 : pd = (-1 : Int32)
            · skip
              refine own_go (fun t_ k_ => XS.icmpNo X14.here hx rfl (hb hby d4_85) rfl (teq hc85_23).2 k_) ?_
              show own_G p.tables e below T14 (mkF m 88 #[.val (.ref a1), .val (.ref ar), .val (.int (0 : Int32)), .val (.int (1 : Int32)), .val (.int (0 : Int32)), .val (.int (-1 : Int32)), .val (.int st'), .val (.int pd), .val (.int (1 : Int32)), .val (.int (0 : Int32)), .val (.int c0), s11] []) _
              refine own_go (fun t_ k_ => XS.iload X14.here hx rfl (hb hby d4_88) rfl k_) ?_
              show own_G p.tables e below T14 (mkF m 90 #[.val (.ref a1), .val (.ref ar), .val (.int (0 : Int32)), .val (.int (1 : Int32)), .val (.int (0 : Int32)), .val (.int (-1 : Int32)), .val (.int st'), .val (.int pd), .val (.int (1 : Int32)), .val (.int (0 : Int32)), .val (.int c0), s11] [(.int c0)]) _
              refine own_go (fun t_ k_ => XS.istore X14.here hx rfl (hb hby d4_90) rfl (l' := #[.val (.ref a1), .val (.ref ar), .val (.int (0 : Int32)), .val (.int (1 : Int32)), .val (.int (0 : Int32)), .val (.int (-1 : Int32)), .val (.int st'), .val (.int c0), .val (.int (1 : Int32)), .val (.int (0 : Int32)), .val (.int c0), s11]) rfl k_) ?_
              show own_G p.tables e below T14 (mkF m 92 #[.val (.ref a1), .val (.ref ar), .val (.int (0 : Int32)), .val (.int (1 : Int32)), .val (.int (0 : Int32)), .val (.int (-1 : Int32)), .val (.int st'), .val (.int c0), .val (.int (1 : Int32)), .val (.int (0 : Int32)), .val (.int c0), s11] []) _
              refine own_go (fun t_ k_ => XS.goto X14.here hx rfl (pc0 := 92) (pc' := 145) rfl (hb hby d4_92) (by decide) (by decide) k_) ?_
              show own_G p.tables e below T14 (mkF m 145 #[.val (.ref a1), .val (.ref ar), .val (.int (0 : Int32)), .val (.int (1 : Int32)), .val (.int (0 : Int32)), .val (.int (-1 : Int32)), .val (.int st'), .val (.int c0), .val (.int (1 : Int32)), .val (.int (0 : Int32)), .val (.int c0), s11] []) _
              refine own_go (fun t_ k_ => XS.iinc X14.here hx rfl (hb hby d4_145) rfl (l' := #[.val (.ref a1), .val (.ref ar), .val (.int (0 : Int32)), .val (.int (1 : Int32)), .val (.int (0 : Int32)), .val (.int (-1 : Int32)), .val (.int st'), .val (.int c0), .val (.int (1 : Int32)), .val (.int (1 : Int32)), .val (.int c0), s11]) rfl k_) ?_
              show own_G p.tables e below T14 (mkF m 148 #[.val (.ref a1), .val (.ref ar), .val (.int (0 : Int32)), .val (.int (1 : Int32)), .val (.int (0 : Int32)), .val (.int (-1 : Int32)), .val (.int st'), .val (.int c0), .val (.int (1 : Int32)), .val (.int (1 : Int32)), .val (.int c0), s11] []) _
              refine own_go (fun t_ k_ => XS.goto X14.here hx rfl (pc0 := 148) (pc' := 43) rfl (hb hby d4_148) (by decide) (by decide) k_) ?_
              show own_G p.tables e below T14 (mkF m 43 #[.val (.ref a1), .val (.ref ar), .val (.int (0 : Int32)), .val (.int (1 : Int32)), .val (.int (0 : Int32)), .val (.int (-1 : Int32)), .val (.int st'), .val (.int c0), .val (.int (1 : Int32)), .val (.int (1 : Int32)), .val (.int c0), s11] []) _
              have hstep : own_step c0 st' pd = ((-1 : Int32), st', c0) := by unfold own_step; rw [if_neg hc67_15, if_neg hc72_21, if_neg hc79_22, if_pos hc85_23]
              rw [hstep] at hrun
              exact turn1 _ _ _ _ _ _ _ X14 e14 N14 (One.val rfl) h11 hs hrun
            · skip
              refine own_go (fun t_ k_ => XS.icmpYes X14.here hx rfl (pc0 := 85) (pc' := 145) rfl (hb hby d4_85) rfl (feq hc85_23).2 (by decide) (by decide) k_) ?_
              show own_G p.tables e below T14 (mkF m 145 #[.val (.ref a1), .val (.ref ar), .val (.int (0 : Int32)), .val (.int (1 : Int32)), .val (.int (0 : Int32)), .val (.int (-1 : Int32)), .val (.int st'), .val (.int pd), .val (.int (1 : Int32)), .val (.int (0 : Int32)), .val (.int c0), s11] []) _
              refine own_go (fun t_ k_ => XS.iinc X14.here hx rfl (hb hby d4_145) rfl (l' := #[.val (.ref a1), .val (.ref ar), .val (.int (0 : Int32)), .val (.int (1 : Int32)), .val (.int (0 : Int32)), .val (.int (-1 : Int32)), .val (.int st'), .val (.int pd), .val (.int (1 : Int32)), .val (.int (1 : Int32)), .val (.int c0), s11]) rfl k_) ?_
              show own_G p.tables e below T14 (mkF m 148 #[.val (.ref a1), .val (.ref ar), .val (.int (0 : Int32)), .val (.int (1 : Int32)), .val (.int (0 : Int32)), .val (.int (-1 : Int32)), .val (.int st'), .val (.int pd), .val (.int (1 : Int32)), .val (.int (1 : Int32)), .val (.int c0), s11] []) _
              refine own_go (fun t_ k_ => XS.goto X14.here hx rfl (pc0 := 148) (pc' := 43) rfl (hb hby d4_148) (by decide) (by decide) k_) ?_
              show own_G p.tables e below T14 (mkF m 43 #[.val (.ref a1), .val (.ref ar), .val (.int (0 : Int32)), .val (.int (1 : Int32)), .val (.int (0 : Int32)), .val (.int (-1 : Int32)), .val (.int st'), .val (.int pd), .val (.int (1 : Int32)), .val (.int (1 : Int32)), .val (.int c0), s11] []) _
              have hstep : own_step c0 st' pd = ((-1 : Int32), st', pd) := by unfold own_step; rw [if_neg hc67_15, if_neg hc72_21, if_neg hc79_22, if_neg hc85_23]
              rw [hstep] at hrun
              exact turn1 _ _ _ _ _ _ _ X14 e14 N14 (One.val rfl) h11 hs hrun
    · rw [own_run_out _ _ hr1] at hrun
      show own_G p.tables e below Tt (mkF m 43 #[.val (.ref a1), .val (.ref ar), .val (.int (0 : Int32)), .val (.int (1 : Int32)), .val (.int (0 : Int32)), .val (.int r), .val (.int st'), .val (.int pd), .val (.int (1 : Int32)), .val (.int (0 : Int32)), s10, s11] []) _
      refine own_go (fun t_ k_ => XS.iload Xt.here hx rfl (hb hby d4_43) rfl k_) ?_
      show own_G p.tables e below Tt (mkF m 45 #[.val (.ref a1), .val (.ref ar), .val (.int (0 : Int32)), .val (.int (1 : Int32)), .val (.int (0 : Int32)), .val (.int r), .val (.int st'), .val (.int pd), .val (.int (1 : Int32)), .val (.int (0 : Int32)), s10, s11] [(.int (0 : Int32))]) _
      refine own_go (fun t_ k_ => XS.iload Xt.here hx rfl (hb hby d4_45) rfl k_) ?_
      show own_G p.tables e below Tt (mkF m 47 #[.val (.ref a1), .val (.ref ar), .val (.int (0 : Int32)), .val (.int (1 : Int32)), .val (.int (0 : Int32)), .val (.int r), .val (.int st'), .val (.int pd), .val (.int (1 : Int32)), .val (.int (0 : Int32)), s10, s11] [(.int (1 : Int32)), (.int (0 : Int32))]) _
      refine own_go (fun t_ k_ => XS.icmpNo Xt.here hx rfl (hb hby d4_47) rfl (tlt (by decide : ((0 : Int32) < (1 : Int32)))).2.1 k_) ?_
      show own_G p.tables e below Tt (mkF m 50 #[.val (.ref a1), .val (.ref ar), .val (.int (0 : Int32)), .val (.int (1 : Int32)), .val (.int (0 : Int32)), .val (.int r), .val (.int st'), .val (.int pd), .val (.int (1 : Int32)), .val (.int (0 : Int32)), s10, s11] []) _
      refine own_go (fun t_ k_ => XS.iload Xt.here hx rfl (hb hby d4_50) rfl k_) ?_
      show own_G p.tables e below Tt (mkF m 52 #[.val (.ref a1), .val (.ref ar), .val (.int (0 : Int32)), .val (.int (1 : Int32)), .val (.int (0 : Int32)), .val (.int r), .val (.int st'), .val (.int pd), .val (.int (1 : Int32)), .val (.int (0 : Int32)), s10, s11] [(.int r)]) _
      refine own_go (fun t_ k_ => XS.iconst Xt.here hx rfl (hb hby d4_52) k_) ?_
      show own_G p.tables e below Tt (mkF m 53 #[.val (.ref a1), .val (.ref ar), .val (.int (0 : Int32)), .val (.int (1 : Int32)), .val (.int (0 : Int32)), .val (.int r), .val (.int st'), .val (.int pd), .val (.int (1 : Int32)), .val (.int (0 : Int32)), s10, s11] [(.int (-1 : Int32)), (.int r)]) _
      refine own_go (fun t_ k_ => XS.icmpYes Xt.here hx rfl (pc0 := 53) (pc' := 151) rfl (hb hby d4_53) rfl (feq hr1).2 (by decide) (by decide) k_) ?_
      show own_G p.tables e below Tt (mkF m 151 #[.val (.ref a1), .val (.ref ar), .val (.int (0 : Int32)), .val (.int (1 : Int32)), .val (.int (0 : Int32)), .val (.int r), .val (.int st'), .val (.int pd), .val (.int (1 : Int32)), .val (.int (0 : Int32)), s10, s11] []) _
      exact exit _ _ _ _ _ _ _ _ Xt et Nt h10 h11 hs hrun
  show own_G p.tables e below s₁ (mkF m 0 #[.val (.ref a1), .val (.ref ar), .val (.int (0 : Int32)), .val (.int (1 : Int32)), .unset, .unset, .unset, .unset, .unset, .unset, .unset, .unset] []) _
  refine own_go (fun t_ k_ => XS.aloadN X0.here hx rfl (hb hby d4_0) rfl rfl k_) ?_
  show own_G p.tables e below s₁ (mkF m 1 #[.val (.ref a1), .val (.ref ar), .val (.int (0 : Int32)), .val (.int (1 : Int32)), .unset, .unset, .unset, .unset, .unset, .unset, .unset, .unset] [(.ref a1)]) _
  obtain ⟨T24, X24, e24, st24⟩ := getF X0 hx hZ hown (host := "") (Or.inl (hw _ (List.mem_of_getElem? (i := 23) rfl))) Via.refl e0 F_depth (g := (mkF m 1 #[.val (.ref a1), .val (.ref ar), .val (.int (0 : Int32)), .val (.int (1 : Int32)), .unset, .unset, .unset, .unset, .unset, .unset, .unset, .unset] [(.ref a1)])) rfl rfl (hb hby d4_1)
  refine own_go st24 ?_
  show own_G p.tables e below T24 (mkF m 4 #[.val (.ref a1), .val (.ref ar), .val (.int (0 : Int32)), .val (.int (1 : Int32)), .unset, .unset, .unset, .unset, .unset, .unset, .unset, .unset] [(.int (1 : Int32))]) _
  refine own_go (fun t_ k_ => XS.iconst X24.here hx rfl (hb hby d4_4) k_) ?_
  show own_G p.tables e below T24 (mkF m 5 #[.val (.ref a1), .val (.ref ar), .val (.int (0 : Int32)), .val (.int (1 : Int32)), .unset, .unset, .unset, .unset, .unset, .unset, .unset, .unset] [(.int (1 : Int32)), (.int (1 : Int32))]) _
  refine own_go (fun t_ k_ => XS.isub X24.here hx rfl (hb hby d4_5) rfl k_) ?_
  show own_G p.tables e below T24 (mkF m 6 #[.val (.ref a1), .val (.ref ar), .val (.int (0 : Int32)), .val (.int (1 : Int32)), .unset, .unset, .unset, .unset, .unset, .unset, .unset, .unset] [(.int (0 : Int32))]) _
  refine own_go (fun t_ k_ => XS.istore X24.here hx rfl (hb hby d4_6) rfl (l' := #[.val (.ref a1), .val (.ref ar), .val (.int (0 : Int32)), .val (.int (1 : Int32)), .val (.int (0 : Int32)), .unset, .unset, .unset, .unset, .unset, .unset, .unset]) rfl k_) ?_
  show own_G p.tables e below T24 (mkF m 8 #[.val (.ref a1), .val (.ref ar), .val (.int (0 : Int32)), .val (.int (1 : Int32)), .val (.int (0 : Int32)), .unset, .unset, .unset, .unset, .unset, .unset, .unset] []) _
  refine own_go (fun t_ k_ => XS.aloadN X24.here hx rfl (hb hby d4_8) rfl rfl k_) ?_
  show own_G p.tables e below T24 (mkF m 9 #[.val (.ref a1), .val (.ref ar), .val (.int (0 : Int32)), .val (.int (1 : Int32)), .val (.int (0 : Int32)), .unset, .unset, .unset, .unset, .unset, .unset, .unset] [(.ref a1)]) _
  obtain ⟨T25, X25, e25, st25⟩ := getF X24 hx hZ hown (host := "") (Or.inl (hw _ (List.mem_of_getElem? (i := 11) rfl))) Via.refl e24 F_refused (g := (mkF m 9 #[.val (.ref a1), .val (.ref ar), .val (.int (0 : Int32)), .val (.int (1 : Int32)), .val (.int (0 : Int32)), .unset, .unset, .unset, .unset, .unset, .unset, .unset] [(.ref a1)])) rfl rfl (hb hby d4_9)
  refine own_go st25 ?_
  show own_G p.tables e below T25 (mkF m 12 #[.val (.ref a1), .val (.ref ar), .val (.int (0 : Int32)), .val (.int (1 : Int32)), .val (.int (0 : Int32)), .unset, .unset, .unset, .unset, .unset, .unset, .unset] [(.ref aR)]) _
  refine own_go (fun t_ k_ => XS.iload X25.here hx rfl (hb hby d4_12) rfl k_) ?_
  show own_G p.tables e below T25 (mkF m 14 #[.val (.ref a1), .val (.ref ar), .val (.int (0 : Int32)), .val (.int (1 : Int32)), .val (.int (0 : Int32)), .unset, .unset, .unset, .unset, .unset, .unset, .unset] [(.int (0 : Int32)), (.ref aR)]) _
  obtain ⟨cl26, Ar26, -, S26, M26, H26, -⟩ := id V_refused
  have hin26_14 : ¬ ((0 : Int32) < 0 ∨ cl26.slots.size ≤ ((0 : Int32)).toNatClampNeg) := inb_of S26 ⟨by decide, by decide⟩
  refine own_go (fun t_ k_ => X25.iaload hx (j := (0 : Int32)) (v := (.int R0)) (by rw [e25]; exact Ar26.1) (State.isArrayOf_alike hZ.alike Ar26.2.1) Ar26.2.2 hin26_14 (H26.at hin26_14 rfl) (g := (mkF m 14 #[.val (.ref a1), .val (.ref ar), .val (.int (0 : Int32)), .val (.int (1 : Int32)), .val (.int (0 : Int32)), .unset, .unset, .unset, .unset, .unset, .unset, .unset] [(.int (0 : Int32)), (.ref aR)])) rfl rfl (hb hby d4_14) _ k_) ?_
  show own_G p.tables e below T25 (mkF m 15 #[.val (.ref a1), .val (.ref ar), .val (.int (0 : Int32)), .val (.int (1 : Int32)), .val (.int (0 : Int32)), .unset, .unset, .unset, .unset, .unset, .unset, .unset] [(.int R0)]) _
  refine own_go (fun t_ k_ => XS.istore X25.here hx rfl (hb hby d4_15) rfl (l' := #[.val (.ref a1), .val (.ref ar), .val (.int (0 : Int32)), .val (.int (1 : Int32)), .val (.int (0 : Int32)), .val (.int R0), .unset, .unset, .unset, .unset, .unset, .unset]) rfl k_) ?_
  show own_G p.tables e below T25 (mkF m 17 #[.val (.ref a1), .val (.ref ar), .val (.int (0 : Int32)), .val (.int (1 : Int32)), .val (.int (0 : Int32)), .val (.int R0), .unset, .unset, .unset, .unset, .unset, .unset] []) _
  refine own_go (fun t_ k_ => XS.aloadN X25.here hx rfl (hb hby d4_17) rfl rfl k_) ?_
  show own_G p.tables e below T25 (mkF m 18 #[.val (.ref a1), .val (.ref ar), .val (.int (0 : Int32)), .val (.int (1 : Int32)), .val (.int (0 : Int32)), .val (.int R0), .unset, .unset, .unset, .unset, .unset, .unset] [(.ref a1)]) _
  obtain ⟨T27, X27, e27, st27⟩ := getF X25 hx hZ hown (host := "") (Or.inl (hw _ (List.mem_of_getElem? (i := 14) rfl))) Via.refl e25 F_started (g := (mkF m 18 #[.val (.ref a1), .val (.ref ar), .val (.int (0 : Int32)), .val (.int (1 : Int32)), .val (.int (0 : Int32)), .val (.int R0), .unset, .unset, .unset, .unset, .unset, .unset] [(.ref a1)])) rfl rfl (hb hby d4_18)
  refine own_go st27 ?_
  show own_G p.tables e below T27 (mkF m 21 #[.val (.ref a1), .val (.ref ar), .val (.int (0 : Int32)), .val (.int (1 : Int32)), .val (.int (0 : Int32)), .val (.int R0), .unset, .unset, .unset, .unset, .unset, .unset] [(.ref aS)]) _
  refine own_go (fun t_ k_ => XS.iload X27.here hx rfl (hb hby d4_21) rfl k_) ?_
  show own_G p.tables e below T27 (mkF m 23 #[.val (.ref a1), .val (.ref ar), .val (.int (0 : Int32)), .val (.int (1 : Int32)), .val (.int (0 : Int32)), .val (.int R0), .unset, .unset, .unset, .unset, .unset, .unset] [(.int (0 : Int32)), (.ref aS)]) _
  obtain ⟨cl28, Ar28, -, S28, M28, H28, -⟩ := id V_started
  have hin28_23 : ¬ ((0 : Int32) < 0 ∨ cl28.slots.size ≤ ((0 : Int32)).toNatClampNeg) := inb_of S28 ⟨by decide, by decide⟩
  refine own_go (fun t_ k_ => X27.baloadBooleans hx (j := (0 : Int32)) (v := (.int S0)) (by rw [e27]; exact Ar28.1) (State.isArrayOf_alike hZ.alike Ar28.2.1) Ar28.2.2 hin28_23 (H28.at hin28_23 rfl) (g := (mkF m 23 #[.val (.ref a1), .val (.ref ar), .val (.int (0 : Int32)), .val (.int (1 : Int32)), .val (.int (0 : Int32)), .val (.int R0), .unset, .unset, .unset, .unset, .unset, .unset] [(.int (0 : Int32)), (.ref aS)])) rfl rfl (hb hby d4_23) _ k_) ?_
  show own_G p.tables e below T27 (mkF m 24 #[.val (.ref a1), .val (.ref ar), .val (.int (0 : Int32)), .val (.int (1 : Int32)), .val (.int (0 : Int32)), .val (.int R0), .unset, .unset, .unset, .unset, .unset, .unset] [(.int S0)]) _
  refine own_go (fun t_ k_ => XS.istore X27.here hx rfl (hb hby d4_24) rfl (l' := #[.val (.ref a1), .val (.ref ar), .val (.int (0 : Int32)), .val (.int (1 : Int32)), .val (.int (0 : Int32)), .val (.int R0), .val (.int S0), .unset, .unset, .unset, .unset, .unset]) rfl k_) ?_
  show own_G p.tables e below T27 (mkF m 26 #[.val (.ref a1), .val (.ref ar), .val (.int (0 : Int32)), .val (.int (1 : Int32)), .val (.int (0 : Int32)), .val (.int R0), .val (.int S0), .unset, .unset, .unset, .unset, .unset] []) _
  refine own_go (fun t_ k_ => XS.aloadN X27.here hx rfl (hb hby d4_26) rfl rfl k_) ?_
  show own_G p.tables e below T27 (mkF m 27 #[.val (.ref a1), .val (.ref ar), .val (.int (0 : Int32)), .val (.int (1 : Int32)), .val (.int (0 : Int32)), .val (.int R0), .val (.int S0), .unset, .unset, .unset, .unset, .unset] [(.ref a1)]) _
  obtain ⟨T29, X29, e29, st29⟩ := getF X27 hx hZ hown (host := "") (Or.inl (hw _ (List.mem_of_getElem? (i := 16) rfl))) Via.refl e27 F_pending (g := (mkF m 27 #[.val (.ref a1), .val (.ref ar), .val (.int (0 : Int32)), .val (.int (1 : Int32)), .val (.int (0 : Int32)), .val (.int R0), .val (.int S0), .unset, .unset, .unset, .unset, .unset] [(.ref a1)])) rfl rfl (hb hby d4_27)
  refine own_go st29 ?_
  show own_G p.tables e below T29 (mkF m 30 #[.val (.ref a1), .val (.ref ar), .val (.int (0 : Int32)), .val (.int (1 : Int32)), .val (.int (0 : Int32)), .val (.int R0), .val (.int S0), .unset, .unset, .unset, .unset, .unset] [(.ref aD)]) _
  refine own_go (fun t_ k_ => XS.iload X29.here hx rfl (hb hby d4_30) rfl k_) ?_
  show own_G p.tables e below T29 (mkF m 32 #[.val (.ref a1), .val (.ref ar), .val (.int (0 : Int32)), .val (.int (1 : Int32)), .val (.int (0 : Int32)), .val (.int R0), .val (.int S0), .unset, .unset, .unset, .unset, .unset] [(.int (0 : Int32)), (.ref aD)]) _
  obtain ⟨cl30, Ar30, -, S30, M30, H30, -⟩ := id V_pending
  have hin30_32 : ¬ ((0 : Int32) < 0 ∨ cl30.slots.size ≤ ((0 : Int32)).toNatClampNeg) := inb_of S30 ⟨by decide, by decide⟩
  refine own_go (fun t_ k_ => X29.iaload hx (j := (0 : Int32)) (v := (.int D0)) (by rw [e29]; exact Ar30.1) (State.isArrayOf_alike hZ.alike Ar30.2.1) Ar30.2.2 hin30_32 (H30.at hin30_32 rfl) (g := (mkF m 32 #[.val (.ref a1), .val (.ref ar), .val (.int (0 : Int32)), .val (.int (1 : Int32)), .val (.int (0 : Int32)), .val (.int R0), .val (.int S0), .unset, .unset, .unset, .unset, .unset] [(.int (0 : Int32)), (.ref aD)])) rfl rfl (hb hby d4_32) _ k_) ?_
  show own_G p.tables e below T29 (mkF m 33 #[.val (.ref a1), .val (.ref ar), .val (.int (0 : Int32)), .val (.int (1 : Int32)), .val (.int (0 : Int32)), .val (.int R0), .val (.int S0), .unset, .unset, .unset, .unset, .unset] [(.int D0)]) _
  refine own_go (fun t_ k_ => XS.istore X29.here hx rfl (hb hby d4_33) rfl (l' := #[.val (.ref a1), .val (.ref ar), .val (.int (0 : Int32)), .val (.int (1 : Int32)), .val (.int (0 : Int32)), .val (.int R0), .val (.int S0), .val (.int D0), .unset, .unset, .unset, .unset]) rfl k_) ?_
  show own_G p.tables e below T29 (mkF m 35 #[.val (.ref a1), .val (.ref ar), .val (.int (0 : Int32)), .val (.int (1 : Int32)), .val (.int (0 : Int32)), .val (.int R0), .val (.int S0), .val (.int D0), .unset, .unset, .unset, .unset] []) _
  refine own_go (fun t_ k_ => XS.iloadN X29.here hx rfl (hb hby d4_35) rfl k_) ?_
  show own_G p.tables e below T29 (mkF m 36 #[.val (.ref a1), .val (.ref ar), .val (.int (0 : Int32)), .val (.int (1 : Int32)), .val (.int (0 : Int32)), .val (.int R0), .val (.int S0), .val (.int D0), .unset, .unset, .unset, .unset] [(.int (0 : Int32))]) _
  refine own_go (fun t_ k_ => XS.iloadN X29.here hx rfl (hb hby d4_36) rfl k_) ?_
  show own_G p.tables e below T29 (mkF m 37 #[.val (.ref a1), .val (.ref ar), .val (.int (0 : Int32)), .val (.int (1 : Int32)), .val (.int (0 : Int32)), .val (.int R0), .val (.int S0), .val (.int D0), .unset, .unset, .unset, .unset] [(.int (1 : Int32)), (.int (0 : Int32))]) _
  refine own_go (fun t_ k_ => XS.iadd X29.here hx rfl (hb hby d4_37) rfl k_) ?_
  show own_G p.tables e below T29 (mkF m 38 #[.val (.ref a1), .val (.ref ar), .val (.int (0 : Int32)), .val (.int (1 : Int32)), .val (.int (0 : Int32)), .val (.int R0), .val (.int S0), .val (.int D0), .unset, .unset, .unset, .unset] [(.int (1 : Int32))]) _
  refine own_go (fun t_ k_ => XS.istore X29.here hx rfl (hb hby d4_38) rfl (l' := #[.val (.ref a1), .val (.ref ar), .val (.int (0 : Int32)), .val (.int (1 : Int32)), .val (.int (0 : Int32)), .val (.int R0), .val (.int S0), .val (.int D0), .val (.int (1 : Int32)), .unset, .unset, .unset]) rfl k_) ?_
  show own_G p.tables e below T29 (mkF m 40 #[.val (.ref a1), .val (.ref ar), .val (.int (0 : Int32)), .val (.int (1 : Int32)), .val (.int (0 : Int32)), .val (.int R0), .val (.int S0), .val (.int D0), .val (.int (1 : Int32)), .unset, .unset, .unset] []) _
  refine own_go (fun t_ k_ => XS.iloadN X29.here hx rfl (hb hby d4_40) rfl k_) ?_
  show own_G p.tables e below T29 (mkF m 41 #[.val (.ref a1), .val (.ref ar), .val (.int (0 : Int32)), .val (.int (1 : Int32)), .val (.int (0 : Int32)), .val (.int R0), .val (.int S0), .val (.int D0), .val (.int (1 : Int32)), .unset, .unset, .unset] [(.int (0 : Int32))]) _
  refine own_go (fun t_ k_ => XS.istore X29.here hx rfl (hb hby d4_41) rfl (l' := #[.val (.ref a1), .val (.ref ar), .val (.int (0 : Int32)), .val (.int (1 : Int32)), .val (.int (0 : Int32)), .val (.int R0), .val (.int S0), .val (.int D0), .val (.int (1 : Int32)), .val (.int (0 : Int32)), .unset, .unset]) rfl k_) ?_
  show own_G p.tables e below T29 (mkF m 43 #[.val (.ref a1), .val (.ref ar), .val (.int (0 : Int32)), .val (.int (1 : Int32)), .val (.int (0 : Int32)), .val (.int R0), .val (.int S0), .val (.int D0), .val (.int (1 : Int32)), .val (.int (0 : Int32)), .unset, .unset] []) _
  exact turn0 _ _ _ _ _ _ _ X29 e29 N0 One.u One.u hst rfl
theorem d12_0 : decode method_3_code 0 = .ok (.iconst (-1), 1) := by decide +kernel
theorem d12_1 : decode method_3_code 1 = .ok (.istore_n 3, 1) := by decide +kernel
theorem d12_2 : decode method_3_code 2 = .ok (.iconst 0, 1) := by decide +kernel
theorem d12_3 : decode method_3_code 3 = .ok (.istore 4, 2) := by decide +kernel
theorem d12_5 : decode method_3_code 5 = .ok (.iload_n 0, 1) := by decide +kernel
theorem d12_6 : decode method_3_code 6 = .ok (.invokestatic 7, 3) := by decide +kernel
theorem d12_9 : decode method_3_code 9 = .ok (.ifCond .ne 15, 3) := by decide +kernel
theorem d12_12 : decode method_3_code 12 = .ok (.iload_n 0, 1) := by decide +kernel
theorem d12_13 : decode method_3_code 13 = .ok (.invokestatic 13, 3) := by decide +kernel
theorem d12_16 : decode method_3_code 16 = .ok (.ifCond .ne 5, 3) := by decide +kernel
theorem d12_19 : decode method_3_code 19 = .ok (.iload_n 0, 1) := by decide +kernel
theorem d12_20 : decode method_3_code 20 = .ok (.ireturn, 1) := by decide +kernel
theorem d12_21 : decode method_3_code 21 = .ok (.iconst 1, 1) := by decide +kernel
theorem d12_22 : decode method_3_code 22 = .ok (.istore 4, 2) := by decide +kernel
theorem d12_24 : decode method_3_code 24 = .ok (.iload_n 1, 1) := by decide +kernel
theorem d12_25 : decode method_3_code 25 = .ok (.invokestatic 7, 3) := by decide +kernel
theorem d12_28 : decode method_3_code 28 = .ok (.ifCond .eq 19, 3) := by decide +kernel
theorem d12_31 : decode method_3_code 31 = .ok (.iload 4, 2) := by decide +kernel
theorem d12_33 : decode method_3_code 33 = .ok (.ifCond .eq 23, 3) := by decide +kernel
theorem d12_36 : decode method_3_code 36 = .ok (.iload_n 1, 1) := by decide +kernel
theorem d12_37 : decode method_3_code 37 = .ok (.bipush 32, 2) := by decide +kernel
theorem d12_39 : decode method_3_code 39 = .ok (.if_icmp .eq 17, 3) := by decide +kernel
theorem d12_42 : decode method_3_code 42 = .ok (.iload_n 1, 1) := by decide +kernel
theorem d12_43 : decode method_3_code 43 = .ok (.istore_n 3, 1) := by decide +kernel
theorem d12_44 : decode method_3_code 44 = .ok (.goto 12, 3) := by decide +kernel
theorem d12_47 : decode method_3_code 47 = .ok (.iload_n 1, 1) := by decide +kernel
theorem d12_48 : decode method_3_code 48 = .ok (.invokestatic 13, 3) := by decide +kernel
theorem d12_51 : decode method_3_code 51 = .ok (.ifCond .ne 5, 3) := by decide +kernel
theorem d12_54 : decode method_3_code 54 = .ok (.iload_n 1, 1) := by decide +kernel
theorem d12_55 : decode method_3_code 55 = .ok (.ireturn, 1) := by decide +kernel
theorem d12_56 : decode method_3_code 56 = .ok (.iload_n 2, 1) := by decide +kernel
theorem d12_57 : decode method_3_code 57 = .ok (.invokestatic 7, 3) := by decide +kernel
theorem d12_60 : decode method_3_code 60 = .ok (.ifCond .ne 19, 3) := by decide +kernel
theorem d12_63 : decode method_3_code 63 = .ok (.iload_n 3, 1) := by decide +kernel
theorem d12_64 : decode method_3_code 64 = .ok (.iconst (-1), 1) := by decide +kernel
theorem d12_65 : decode method_3_code 65 = .ok (.if_icmp .eq 5, 3) := by decide +kernel
theorem d12_68 : decode method_3_code 68 = .ok (.iload_n 3, 1) := by decide +kernel
theorem d12_69 : decode method_3_code 69 = .ok (.ireturn, 1) := by decide +kernel
theorem d12_70 : decode method_3_code 70 = .ok (.iload_n 2, 1) := by decide +kernel
theorem d12_71 : decode method_3_code 71 = .ok (.invokestatic 13, 3) := by decide +kernel
theorem d12_74 : decode method_3_code 74 = .ok (.ifCond .ne 5, 3) := by decide +kernel
theorem d12_77 : decode method_3_code 77 = .ok (.iload_n 2, 1) := by decide +kernel
theorem d12_78 : decode method_3_code 78 = .ok (.ireturn, 1) := by decide +kernel
theorem d12_79 : decode method_3_code 79 = .ok (.iconst (-1), 1) := by decide +kernel
theorem d12_80 : decode method_3_code 80 = .ok (.ireturn, 1) := by decide +kernel
theorem ef_12 (m : MethodId) (p1 : Int32) (p2 : Int32) (p3 : Int32) : entryFrame m #[(.int p1), (.int p2), (.int p3)] 5 = mkF m 0 #[.val (.int p1), .val (.int p2), .val (.int p3), .unset, .unset] [] := by first | (simp [entryFrame, mkF, argsToLocals, Value.category]; done) | rfl
def Q12 (Z : State) (p1 : Int32) (p2 : Int32) (p3 : Int32) (aP : Addr) (clP : Cell) (h0 : Heap) (n0 : Nat) (v : Option Value) (h : Heap) (L : List Loc) : Prop := v = some (.int (own_ref3 p1 p2 p3)) ∧ Fr n0 L ∧ h = h0
set_option maxRecDepth 65536 in
set_option maxHeartbeats 40000000 in
theorem rm12 (l : Launch) (Z : State) (a0 : Array Value) (hw : ∀ d ∈ tables_1, d.before a0 Z = true) (ws : List Jvm.Cond) (p1 : Int32) (p2 : Int32) (p3 : Int32) (aP : Addr) (clP : Cell) (h0 : Heap) (n0 : Nat) (Z0 : n0 ≤ h0.size) (S_P : Sta Z h0 "com/example/einzug/einzug/rules/PermittedCharacters" "PERMITTED" "[Z" (.ref aP)) (Ar_P : Arr Z h0 aP clP .boolean) (sz_P : clP.slots.size = 256) (tab_P : ∀ k, k < 256 → clP.slots[k]? = some (.int (own_perm k))) :
    MetFree l (⟨"com/example/einzug/einzug/core/TextCharactersClosePinLaw", "ref3", "(III)I"⟩ : MethodName) (head1 (Jvm.Cond.code (⟨"com/example/einzug/einzug/core/TextCharactersClosePinLaw", "ref3", "(III)I"⟩ : MethodName) method_3_code 5 (some .int) :: ws) ({ frames := 1, cells := 0, slots := 0, locals := 12 } : Room)) (fun a U => a = #[(.int p1), (.int p2), (.int p3)] ∧ Z.Warmed39 U.vm ∧ U.heap = h0) (fun _ _ _ _ _ => True) (fun _ U o U' => ∃ v L, o = .returned v ∧ Q12 Z p1 p2 p3 aP clP h0 n0 v U'.heap L ∧ FrameEnd U o U' L ({ frames := 1, cells := 0, slots := 0, locals := 12 } : Room).cells ({ frames := 1, cells := 0, slots := 0, locals := 12 } : Room).slots) := by
  refine MetFree.of_bodySF (plainFor_of_name own_pn1) hisR ?_
  intro p e s m args below meth c s₁ Bd hml0 hP hK
  obtain ⟨rfl, hZ, hh⟩ := hP
  have hx := Bd.exec
  have hby := Bd.bytes
  have hml : c.maxLocals = 5 := hml0
  have hown : s.vm.findClass "com/example/einzug/einzug/core/TextCharactersClosePinLaw" = some m.cls := findClass_of_methodNamed Bd.named
  have hnm := (name_of_methodNamed Bd.named Bd.method).1
  have X0 : Stand p l e ({ frames := 1, cells := 0, slots := 0, locals := 12 } : Room) s m #[(.int p1), (.int p2), (.int p3)] below meth c s₁ [] 0 0 := Stand.of_body Bd
  have e0 : s₁.heap = h0 := by rw [← hh, Bd.state]; rfl
  have N0 := Fr.nil n0
  refine own_top (Q := Q12 Z p1 p2 p3 aP clP h0 n0) (ef_12 m p1 p2 p3) ?_
  have tailc : ∀ (pd st' : Int32) (Tt : State) (locs : List Loc), Stand p l e ({ frames := 1, cells := 0, slots := 0, locals := 12 } : Room) s m #[(.int p1), (.int p2), (.int p3)] below meth c Tt locs 0 0 → Tt.heap = h0 → Fr n0 locs → own_ref3 p1 p2 p3 = own_r3c pd p3 → own_G p.tables e below Tt (mkF m 56 #[.val (.int p1), .val (.int p2), .val (.int p3), .val (.int pd), .val (.int st')] []) (own_P below s (Q12 Z p1 p2 p3 aP clP h0 n0) (({ frames := 1, cells := 0, slots := 0, locals := 12 } : Room)).cells (({ frames := 1, cells := 0, slots := 0, locals := 12 } : Room)).slots) := by
    intro pd st' Tt locs Xt et Nt hq
    show own_G p.tables e below Tt (mkF m 56 #[.val (.int p1), .val (.int p2), .val (.int p3), .val (.int pd), .val (.int st')] []) _
    refine own_go (fun t_ k_ => XS.iloadN Xt.here hx rfl (hb hby d12_56) rfl k_) ?_
    show own_G p.tables e below Tt (mkF m 57 #[.val (.int p1), .val (.int p2), .val (.int p3), .val (.int pd), .val (.int st')] [(.int p3)]) _
    obtain ⟨_, _, ⟨T1, L1, k1, n1⟩, -, X1, ⟨Lc1, hQ1, l1, y1, z1⟩, st1⟩ := Jvm.LawKit.callS Xt hx (y := (⟨"com/example/einzug/einzug/core/TextCharactersClosePinLaw", "sp", "(I)Z"⟩ : MethodName)) hown (mvT hZ (hw _ (List.mem_of_getElem? (i := 64) rfl))) (mvT hZ (hw _ (List.mem_of_getElem? (i := 65) rfl))) (mvT hZ (hw _ (List.mem_of_getElem? (i := 62) rfl))) (mvT hZ (hw _ (List.mem_of_getElem? (i := 66) rfl))) (by decide) (backOf (W := 0) (rm13 l Z a0 hw [] p3 h0 n0 Z0) hZ (hw _ (List.mem_of_getElem? (i := 66) rfl)) (hw _ (List.mem_of_getElem? (i := 62) rfl)) (by decide) (by decide)) (g := (mkF m 57 #[.val (.int p1), .val (.int p2), .val (.int p3), .val (.int pd), .val (.int st')] [(.int p3)])) rfl (by rw [hml]; rfl) (argsL := [(.int p3)]) (rest := []) (lenOf own_pd2 rfl) rfl (by show 2 * 0 + _ ≤ _; exact Nat.le_of_eq rfl) (hb hby d12_57) (fun _ _ => ⟨rfl, et, (by decide : 0 + 0 ≤ _), (by decide : 0 + 0 ≤ _)⟩)
    dsimp only [Pt.U, Pt.locs, Pt.cells, Pt.slots] at X1 l1 y1 z1 st1 hQ1
    subst l1 y1 z1
    obtain ⟨rfl, N1q, e1⟩ := hQ1
    have N1 := Fr.app Nt N1q
    refine own_go st1 ?_
    show own_G p.tables e below T1 (mkF m 60 #[.val (.int p1), .val (.int p2), .val (.int p3), .val (.int pd), .val (.int st')] [(.int (own_sp p3))]) _
    by_cases hc60_2 : (own_sp p3) = (0 : Int32)
    · skip
      refine own_go (fun t_ k_ => XS.ifNo X1.here hx rfl (hb hby d12_60) rfl ((if0 _ _).trans (teq hc60_2).2) k_) ?_
      show own_G p.tables e below T1 (mkF m 63 #[.val (.int p1), .val (.int p2), .val (.int p3), .val (.int pd), .val (.int st')] []) _
      refine own_go (fun t_ k_ => XS.iloadN X1.here hx rfl (hb hby d12_63) rfl k_) ?_
      show own_G p.tables e below T1 (mkF m 64 #[.val (.int p1), .val (.int p2), .val (.int p3), .val (.int pd), .val (.int st')] [(.int pd)]) _
      refine own_go (fun t_ k_ => XS.iconst X1.here hx rfl (hb hby d12_64) k_) ?_
      show own_G p.tables e below T1 (mkF m 65 #[.val (.int p1), .val (.int p2), .val (.int p3), .val (.int pd), .val (.int st')] [(.int (-1 : Int32)), (.int pd)]) _
      by_cases hc65_3 : pd = (-1 : Int32)
      · skip
        refine own_go (fun t_ k_ => XS.icmpYes X1.here hx rfl (pc0 := 65) (pc' := 70) rfl (hb hby d12_65) rfl (teq hc65_3).1 (by decide) (by decide) k_) ?_
        show own_G p.tables e below T1 (mkF m 70 #[.val (.int p1), .val (.int p2), .val (.int p3), .val (.int pd), .val (.int st')] []) _
        refine own_go (fun t_ k_ => XS.iloadN X1.here hx rfl (hb hby d12_70) rfl k_) ?_
        show own_G p.tables e below T1 (mkF m 71 #[.val (.int p1), .val (.int p2), .val (.int p3), .val (.int pd), .val (.int st')] [(.int p3)]) _
        obtain ⟨_, _, ⟨T4, L4, k4, n4⟩, -, X4, ⟨Lc4, hQ4, l4, y4, z4⟩, st4⟩ := Jvm.LawKit.callS X1 hx (y := (⟨"com/example/einzug/einzug/rules/PermittedCharacters", "isPermitted", "(I)Z"⟩ : MethodName)) hown (mvT hZ (hw _ (List.mem_of_getElem? (i := 67) rfl))) (mvT hZ (hw _ (List.mem_of_getElem? (i := 50) rfl))) (mvT hZ (hw _ (List.mem_of_getElem? (i := 51) rfl))) (mvT hZ (hw _ (List.mem_of_getElem? (i := 52) rfl))) (by decide) (backOf (W := 0) (rm10 l Z a0 hw [] p3 aP clP h0 n0 Z0 S_P Ar_P sz_P tab_P) hZ (hw _ (List.mem_of_getElem? (i := 52) rfl)) (hw _ (List.mem_of_getElem? (i := 51) rfl)) (by decide) (by decide)) (g := (mkF m 71 #[.val (.int p1), .val (.int p2), .val (.int p3), .val (.int pd), .val (.int st')] [(.int p3)])) rfl (by rw [hml]; rfl) (argsL := [(.int p3)]) (rest := []) (lenOf own_pd2 rfl) rfl (by show 2 * 0 + _ ≤ _; exact Nat.le_of_eq rfl) (hb hby d12_71) (fun _ _ => ⟨rfl, e1, (by decide : 0 + 0 ≤ _), (by decide : 0 + 0 ≤ _)⟩)
        dsimp only [Pt.U, Pt.locs, Pt.cells, Pt.slots] at X4 l4 y4 z4 st4 hQ4
        subst l4 y4 z4
        obtain ⟨rfl, N4q, e4⟩ := hQ4
        have N4 := Fr.app N1 N4q
        refine own_go st4 ?_
        show own_G p.tables e below T4 (mkF m 74 #[.val (.int p1), .val (.int p2), .val (.int p3), .val (.int pd), .val (.int st')] [(.int (own_isp p3))]) _
        by_cases hc74_5 : (own_isp p3) = (0 : Int32)
        · skip
          refine own_go (fun t_ k_ => XS.ifNo X4.here hx rfl (hb hby d12_74) rfl ((if0 _ _).trans (teq hc74_5).2) k_) ?_
          show own_G p.tables e below T4 (mkF m 77 #[.val (.int p1), .val (.int p2), .val (.int p3), .val (.int pd), .val (.int st')] []) _
          refine own_go (fun t_ k_ => XS.iloadN X4.here hx rfl (hb hby d12_77) rfl k_) ?_
          show own_G p.tables e below T4 (mkF m 78 #[.val (.int p1), .val (.int p2), .val (.int p3), .val (.int pd), .val (.int st')] [(.int p3)]) _
          exact own_end (v := some (.int p3)) X4 Bd.notSynchronized (fun h => by rw [Bd.returns] at h; cases h) (fun fs hr => retI X4 hx Bd.returns (hb hby d12_78) hr) e4 ⟨congrArg (fun z => some (Value.int z)) (by rw [hq]; unfold own_r3c; rw [if_pos hc60_2, if_pos hc65_3, if_pos hc74_5]), N4, rfl⟩ (by decide) (by decide)
        · skip
          refine own_go (fun t_ k_ => XS.ifYes X4.here hx rfl (pc0 := 74) (pc' := 79) rfl (hb hby d12_74) rfl ((if0 _ _).trans (feq hc74_5).2) (by decide) (by decide) k_) ?_
          show own_G p.tables e below T4 (mkF m 79 #[.val (.int p1), .val (.int p2), .val (.int p3), .val (.int pd), .val (.int st')] []) _
          refine own_go (fun t_ k_ => XS.iconst X4.here hx rfl (hb hby d12_79) k_) ?_
          show own_G p.tables e below T4 (mkF m 80 #[.val (.int p1), .val (.int p2), .val (.int p3), .val (.int pd), .val (.int st')] [(.int (-1 : Int32))]) _
          exact own_end (v := some (.int (-1 : Int32))) X4 Bd.notSynchronized (fun h => by rw [Bd.returns] at h; cases h) (fun fs hr => retI X4 hx Bd.returns (hb hby d12_80) hr) e4 ⟨congrArg (fun z => some (Value.int z)) (by rw [hq]; unfold own_r3c; rw [if_pos hc60_2, if_pos hc65_3, if_neg hc74_5]), N4, rfl⟩ (by decide) (by decide)
      · skip
        refine own_go (fun t_ k_ => XS.icmpNo X1.here hx rfl (hb hby d12_65) rfl (feq hc65_3).1 k_) ?_
        show own_G p.tables e below T1 (mkF m 68 #[.val (.int p1), .val (.int p2), .val (.int p3), .val (.int pd), .val (.int st')] []) _
        refine own_go (fun t_ k_ => XS.iloadN X1.here hx rfl (hb hby d12_68) rfl k_) ?_
        show own_G p.tables e below T1 (mkF m 69 #[.val (.int p1), .val (.int p2), .val (.int p3), .val (.int pd), .val (.int st')] [(.int pd)]) _
        exact own_end (v := some (.int pd)) X1 Bd.notSynchronized (fun h => by rw [Bd.returns] at h; cases h) (fun fs hr => retI X1 hx Bd.returns (hb hby d12_69) hr) e1 ⟨congrArg (fun z => some (Value.int z)) (by rw [hq]; unfold own_r3c; rw [if_pos hc60_2, if_neg hc65_3]), N1, rfl⟩ (by decide) (by decide)
    · skip
      refine own_go (fun t_ k_ => XS.ifYes X1.here hx rfl (pc0 := 60) (pc' := 79) rfl (hb hby d12_60) rfl ((if0 _ _).trans (feq hc60_2).2) (by decide) (by decide) k_) ?_
      show own_G p.tables e below T1 (mkF m 79 #[.val (.int p1), .val (.int p2), .val (.int p3), .val (.int pd), .val (.int st')] []) _
      refine own_go (fun t_ k_ => XS.iconst X1.here hx rfl (hb hby d12_79) k_) ?_
      show own_G p.tables e below T1 (mkF m 80 #[.val (.int p1), .val (.int p2), .val (.int p3), .val (.int pd), .val (.int st')] [(.int (-1 : Int32))]) _
      exact own_end (v := some (.int (-1 : Int32))) X1 Bd.notSynchronized (fun h => by rw [Bd.returns] at h; cases h) (fun fs hr => retI X1 hx Bd.returns (hb hby d12_80) hr) e1 ⟨congrArg (fun z => some (Value.int z)) (by rw [hq]; unfold own_r3c; rw [if_neg hc60_2]), N1, rfl⟩ (by decide) (by decide)
  have tailb : ∀ (st' : Int32) (Tt : State) (locs : List Loc), Stand p l e ({ frames := 1, cells := 0, slots := 0, locals := 12 } : Room) s m #[(.int p1), (.int p2), (.int p3)] below meth c Tt locs 0 0 → Tt.heap = h0 → Fr n0 locs → own_ref3 p1 p2 p3 = own_r3b st' p2 p3 → own_G p.tables e below Tt (mkF m 24 #[.val (.int p1), .val (.int p2), .val (.int p3), .val (.int (-1 : Int32)), .val (.int st')] []) (own_P below s (Q12 Z p1 p2 p3 aP clP h0 n0) (({ frames := 1, cells := 0, slots := 0, locals := 12 } : Room)).cells (({ frames := 1, cells := 0, slots := 0, locals := 12 } : Room)).slots) := by
    intro st' Tt locs Xt et Nt hq
    show own_G p.tables e below Tt (mkF m 24 #[.val (.int p1), .val (.int p2), .val (.int p3), .val (.int (-1 : Int32)), .val (.int st')] []) _
    refine own_go (fun t_ k_ => XS.iloadN Xt.here hx rfl (hb hby d12_24) rfl k_) ?_
    show own_G p.tables e below Tt (mkF m 25 #[.val (.int p1), .val (.int p2), .val (.int p3), .val (.int (-1 : Int32)), .val (.int st')] [(.int p2)]) _
    obtain ⟨_, _, ⟨T6, L6, k6, n6⟩, -, X6, ⟨Lc6, hQ6, l6, y6, z6⟩, st6⟩ := Jvm.LawKit.callS Xt hx (y := (⟨"com/example/einzug/einzug/core/TextCharactersClosePinLaw", "sp", "(I)Z"⟩ : MethodName)) hown (mvT hZ (hw _ (List.mem_of_getElem? (i := 64) rfl))) (mvT hZ (hw _ (List.mem_of_getElem? (i := 65) rfl))) (mvT hZ (hw _ (List.mem_of_getElem? (i := 62) rfl))) (mvT hZ (hw _ (List.mem_of_getElem? (i := 66) rfl))) (by decide) (backOf (W := 0) (rm13 l Z a0 hw [] p2 h0 n0 Z0) hZ (hw _ (List.mem_of_getElem? (i := 66) rfl)) (hw _ (List.mem_of_getElem? (i := 62) rfl)) (by decide) (by decide)) (g := (mkF m 25 #[.val (.int p1), .val (.int p2), .val (.int p3), .val (.int (-1 : Int32)), .val (.int st')] [(.int p2)])) rfl (by rw [hml]; rfl) (argsL := [(.int p2)]) (rest := []) (lenOf own_pd2 rfl) rfl (by show 2 * 0 + _ ≤ _; exact Nat.le_of_eq rfl) (hb hby d12_25) (fun _ _ => ⟨rfl, et, (by decide : 0 + 0 ≤ _), (by decide : 0 + 0 ≤ _)⟩)
    dsimp only [Pt.U, Pt.locs, Pt.cells, Pt.slots] at X6 l6 y6 z6 st6 hQ6
    subst l6 y6 z6
    obtain ⟨rfl, N6q, e6⟩ := hQ6
    have N6 := Fr.app Nt N6q
    refine own_go st6 ?_
    show own_G p.tables e below T6 (mkF m 28 #[.val (.int p1), .val (.int p2), .val (.int p3), .val (.int (-1 : Int32)), .val (.int st')] [(.int (own_sp p2))]) _
    by_cases hc28_7 : (own_sp p2) = (0 : Int32)
    · skip
      refine own_go (fun t_ k_ => XS.ifYes X6.here hx rfl (pc0 := 28) (pc' := 47) rfl (hb hby d12_28) rfl ((if0 _ _).trans (teq hc28_7).1) (by decide) (by decide) k_) ?_
      show own_G p.tables e below T6 (mkF m 47 #[.val (.int p1), .val (.int p2), .val (.int p3), .val (.int (-1 : Int32)), .val (.int st')] []) _
      refine own_go (fun t_ k_ => XS.iloadN X6.here hx rfl (hb hby d12_47) rfl k_) ?_
      show own_G p.tables e below T6 (mkF m 48 #[.val (.int p1), .val (.int p2), .val (.int p3), .val (.int (-1 : Int32)), .val (.int st')] [(.int p2)]) _
      obtain ⟨_, _, ⟨T8, L8, k8, n8⟩, -, X8, ⟨Lc8, hQ8, l8, y8, z8⟩, st8⟩ := Jvm.LawKit.callS X6 hx (y := (⟨"com/example/einzug/einzug/rules/PermittedCharacters", "isPermitted", "(I)Z"⟩ : MethodName)) hown (mvT hZ (hw _ (List.mem_of_getElem? (i := 67) rfl))) (mvT hZ (hw _ (List.mem_of_getElem? (i := 50) rfl))) (mvT hZ (hw _ (List.mem_of_getElem? (i := 51) rfl))) (mvT hZ (hw _ (List.mem_of_getElem? (i := 52) rfl))) (by decide) (backOf (W := 0) (rm10 l Z a0 hw [] p2 aP clP h0 n0 Z0 S_P Ar_P sz_P tab_P) hZ (hw _ (List.mem_of_getElem? (i := 52) rfl)) (hw _ (List.mem_of_getElem? (i := 51) rfl)) (by decide) (by decide)) (g := (mkF m 48 #[.val (.int p1), .val (.int p2), .val (.int p3), .val (.int (-1 : Int32)), .val (.int st')] [(.int p2)])) rfl (by rw [hml]; rfl) (argsL := [(.int p2)]) (rest := []) (lenOf own_pd2 rfl) rfl (by show 2 * 0 + _ ≤ _; exact Nat.le_of_eq rfl) (hb hby d12_48) (fun _ _ => ⟨rfl, e6, (by decide : 0 + 0 ≤ _), (by decide : 0 + 0 ≤ _)⟩)
      dsimp only [Pt.U, Pt.locs, Pt.cells, Pt.slots] at X8 l8 y8 z8 st8 hQ8
      subst l8 y8 z8
      obtain ⟨rfl, N8q, e8⟩ := hQ8
      have N8 := Fr.app N6 N8q
      refine own_go st8 ?_
      show own_G p.tables e below T8 (mkF m 51 #[.val (.int p1), .val (.int p2), .val (.int p3), .val (.int (-1 : Int32)), .val (.int st')] [(.int (own_isp p2))]) _
      by_cases hc51_9 : (own_isp p2) = (0 : Int32)
      · skip
        refine own_go (fun t_ k_ => XS.ifNo X8.here hx rfl (hb hby d12_51) rfl ((if0 _ _).trans (teq hc51_9).2) k_) ?_
        show own_G p.tables e below T8 (mkF m 54 #[.val (.int p1), .val (.int p2), .val (.int p3), .val (.int (-1 : Int32)), .val (.int st')] []) _
        refine own_go (fun t_ k_ => XS.iloadN X8.here hx rfl (hb hby d12_54) rfl k_) ?_
        show own_G p.tables e below T8 (mkF m 55 #[.val (.int p1), .val (.int p2), .val (.int p3), .val (.int (-1 : Int32)), .val (.int st')] [(.int p2)]) _
        exact own_end (v := some (.int p2)) X8 Bd.notSynchronized (fun h => by rw [Bd.returns] at h; cases h) (fun fs hr => retI X8 hx Bd.returns (hb hby d12_55) hr) e8 ⟨congrArg (fun z => some (Value.int z)) (by rw [hq]; unfold own_r3b; rw [if_pos hc28_7, if_pos hc51_9]), N8, rfl⟩ (by decide) (by decide)
      · skip
        refine own_go (fun t_ k_ => XS.ifYes X8.here hx rfl (pc0 := 51) (pc' := 56) rfl (hb hby d12_51) rfl ((if0 _ _).trans (feq hc51_9).2) (by decide) (by decide) k_) ?_
        show own_G p.tables e below T8 (mkF m 56 #[.val (.int p1), .val (.int p2), .val (.int p3), .val (.int (-1 : Int32)), .val (.int st')] []) _
        exact tailc _ _ _ _ X8 e8 N8 (by rw [hq]; unfold own_r3b; rw [if_pos hc28_7, if_neg hc51_9])
    · skip
      refine own_go (fun t_ k_ => XS.ifNo X6.here hx rfl (hb hby d12_28) rfl ((if0 _ _).trans (feq hc28_7).1) k_) ?_
      show own_G p.tables e below T6 (mkF m 31 #[.val (.int p1), .val (.int p2), .val (.int p3), .val (.int (-1 : Int32)), .val (.int st')] []) _
      refine own_go (fun t_ k_ => XS.iload X6.here hx rfl (hb hby d12_31) rfl k_) ?_
      show own_G p.tables e below T6 (mkF m 33 #[.val (.int p1), .val (.int p2), .val (.int p3), .val (.int (-1 : Int32)), .val (.int st')] [(.int st')]) _
      by_cases hc33_10 : st' = (0 : Int32)
      · skip
        refine own_go (fun t_ k_ => XS.ifYes X6.here hx rfl (pc0 := 33) (pc' := 56) rfl (hb hby d12_33) rfl ((if0 _ _).trans (teq hc33_10).1) (by decide) (by decide) k_) ?_
        show own_G p.tables e below T6 (mkF m 56 #[.val (.int p1), .val (.int p2), .val (.int p3), .val (.int (-1 : Int32)), .val (.int st')] []) _
        exact tailc _ _ _ _ X6 e6 N6 (by rw [hq]; unfold own_r3b; rw [if_neg hc28_7, if_pos hc33_10])
      · skip
        refine own_go (fun t_ k_ => XS.ifNo X6.here hx rfl (hb hby d12_33) rfl ((if0 _ _).trans (feq hc33_10).1) k_) ?_
        show own_G p.tables e below T6 (mkF m 36 #[.val (.int p1), .val (.int p2), .val (.int p3), .val (.int (-1 : Int32)), .val (.int st')] []) _
        refine own_go (fun t_ k_ => XS.iloadN X6.here hx rfl (hb hby d12_36) rfl k_) ?_
        show own_G p.tables e below T6 (mkF m 37 #[.val (.int p1), .val (.int p2), .val (.int p3), .val (.int (-1 : Int32)), .val (.int st')] [(.int p2)]) _
        refine own_go (fun t_ k_ => XS.bipush X6.here hx rfl (hb hby d12_37) k_) ?_
        show own_G p.tables e below T6 (mkF m 39 #[.val (.int p1), .val (.int p2), .val (.int p3), .val (.int (-1 : Int32)), .val (.int st')] [(.int (32 : Int32)), (.int p2)]) _
        by_cases hc39_11 : p2 = (32 : Int32)
        · skip
          refine own_go (fun t_ k_ => XS.icmpYes X6.here hx rfl (pc0 := 39) (pc' := 56) rfl (hb hby d12_39) rfl (teq hc39_11).1 (by decide) (by decide) k_) ?_
          show own_G p.tables e below T6 (mkF m 56 #[.val (.int p1), .val (.int p2), .val (.int p3), .val (.int (-1 : Int32)), .val (.int st')] []) _
          exact tailc _ _ _ _ X6 e6 N6 (by rw [hq]; unfold own_r3b; rw [if_neg hc28_7, if_neg hc33_10, if_pos hc39_11])
        · skip
          refine own_go (fun t_ k_ => XS.icmpNo X6.here hx rfl (hb hby d12_39) rfl (feq hc39_11).1 k_) ?_
          show own_G p.tables e below T6 (mkF m 42 #[.val (.int p1), .val (.int p2), .val (.int p3), .val (.int (-1 : Int32)), .val (.int st')] []) _
          refine own_go (fun t_ k_ => XS.iloadN X6.here hx rfl (hb hby d12_42) rfl k_) ?_
          show own_G p.tables e below T6 (mkF m 43 #[.val (.int p1), .val (.int p2), .val (.int p3), .val (.int (-1 : Int32)), .val (.int st')] [(.int p2)]) _
          refine own_go (fun t_ k_ => XS.istoreN X6.here hx rfl (hb hby d12_43) rfl (l' := #[.val (.int p1), .val (.int p2), .val (.int p3), .val (.int p2), .val (.int st')]) rfl k_) ?_
          show own_G p.tables e below T6 (mkF m 44 #[.val (.int p1), .val (.int p2), .val (.int p3), .val (.int p2), .val (.int st')] []) _
          refine own_go (fun t_ k_ => XS.goto X6.here hx rfl (pc0 := 44) (pc' := 56) rfl (hb hby d12_44) (by decide) (by decide) k_) ?_
          show own_G p.tables e below T6 (mkF m 56 #[.val (.int p1), .val (.int p2), .val (.int p3), .val (.int p2), .val (.int st')] []) _
          exact tailc _ _ _ _ X6 e6 N6 (by rw [hq]; unfold own_r3b; rw [if_neg hc28_7, if_neg hc33_10, if_neg hc39_11])
  show own_G p.tables e below s₁ (mkF m 0 #[.val (.int p1), .val (.int p2), .val (.int p3), .unset, .unset] []) _
  refine own_go (fun t_ k_ => XS.iconst X0.here hx rfl (hb hby d12_0) k_) ?_
  show own_G p.tables e below s₁ (mkF m 1 #[.val (.int p1), .val (.int p2), .val (.int p3), .unset, .unset] [(.int (-1 : Int32))]) _
  refine own_go (fun t_ k_ => XS.istoreN X0.here hx rfl (hb hby d12_1) rfl (l' := #[.val (.int p1), .val (.int p2), .val (.int p3), .val (.int (-1 : Int32)), .unset]) rfl k_) ?_
  show own_G p.tables e below s₁ (mkF m 2 #[.val (.int p1), .val (.int p2), .val (.int p3), .val (.int (-1 : Int32)), .unset] []) _
  refine own_go (fun t_ k_ => XS.iconst X0.here hx rfl (hb hby d12_2) k_) ?_
  show own_G p.tables e below s₁ (mkF m 3 #[.val (.int p1), .val (.int p2), .val (.int p3), .val (.int (-1 : Int32)), .unset] [(.int (0 : Int32))]) _
  refine own_go (fun t_ k_ => XS.istore X0.here hx rfl (hb hby d12_3) rfl (l' := #[.val (.int p1), .val (.int p2), .val (.int p3), .val (.int (-1 : Int32)), .val (.int (0 : Int32))]) rfl k_) ?_
  show own_G p.tables e below s₁ (mkF m 5 #[.val (.int p1), .val (.int p2), .val (.int p3), .val (.int (-1 : Int32)), .val (.int (0 : Int32))] []) _
  refine own_go (fun t_ k_ => XS.iloadN X0.here hx rfl (hb hby d12_5) rfl k_) ?_
  show own_G p.tables e below s₁ (mkF m 6 #[.val (.int p1), .val (.int p2), .val (.int p3), .val (.int (-1 : Int32)), .val (.int (0 : Int32))] [(.int p1)]) _
  obtain ⟨_, _, ⟨T12, L12, k12, n12⟩, -, X12, ⟨Lc12, hQ12, l12, y12, z12⟩, st12⟩ := Jvm.LawKit.callS X0 hx (y := (⟨"com/example/einzug/einzug/core/TextCharactersClosePinLaw", "sp", "(I)Z"⟩ : MethodName)) hown (mvT hZ (hw _ (List.mem_of_getElem? (i := 64) rfl))) (mvT hZ (hw _ (List.mem_of_getElem? (i := 65) rfl))) (mvT hZ (hw _ (List.mem_of_getElem? (i := 62) rfl))) (mvT hZ (hw _ (List.mem_of_getElem? (i := 66) rfl))) (by decide) (backOf (W := 0) (rm13 l Z a0 hw [] p1 h0 n0 Z0) hZ (hw _ (List.mem_of_getElem? (i := 66) rfl)) (hw _ (List.mem_of_getElem? (i := 62) rfl)) (by decide) (by decide)) (g := (mkF m 6 #[.val (.int p1), .val (.int p2), .val (.int p3), .val (.int (-1 : Int32)), .val (.int (0 : Int32))] [(.int p1)])) rfl (by rw [hml]; rfl) (argsL := [(.int p1)]) (rest := []) (lenOf own_pd2 rfl) rfl (by show 2 * 0 + _ ≤ _; exact Nat.le_of_eq rfl) (hb hby d12_6) (fun _ _ => ⟨rfl, e0, (by decide : 0 + 0 ≤ _), (by decide : 0 + 0 ≤ _)⟩)
  dsimp only [Pt.U, Pt.locs, Pt.cells, Pt.slots] at X12 l12 y12 z12 st12 hQ12
  subst l12 y12 z12
  obtain ⟨rfl, N12q, e12⟩ := hQ12
  have N12 := Fr.app N0 N12q
  refine own_go st12 ?_
  show own_G p.tables e below T12 (mkF m 9 #[.val (.int p1), .val (.int p2), .val (.int p3), .val (.int (-1 : Int32)), .val (.int (0 : Int32))] [(.int (own_sp p1))]) _
  by_cases hc9_13 : (own_sp p1) = (0 : Int32)
  · skip
    refine own_go (fun t_ k_ => XS.ifNo X12.here hx rfl (hb hby d12_9) rfl ((if0 _ _).trans (teq hc9_13).2) k_) ?_
    show own_G p.tables e below T12 (mkF m 12 #[.val (.int p1), .val (.int p2), .val (.int p3), .val (.int (-1 : Int32)), .val (.int (0 : Int32))] []) _
    refine own_go (fun t_ k_ => XS.iloadN X12.here hx rfl (hb hby d12_12) rfl k_) ?_
    show own_G p.tables e below T12 (mkF m 13 #[.val (.int p1), .val (.int p2), .val (.int p3), .val (.int (-1 : Int32)), .val (.int (0 : Int32))] [(.int p1)]) _
    obtain ⟨_, _, ⟨T14, L14, k14, n14⟩, -, X14, ⟨Lc14, hQ14, l14, y14, z14⟩, st14⟩ := Jvm.LawKit.callS X12 hx (y := (⟨"com/example/einzug/einzug/rules/PermittedCharacters", "isPermitted", "(I)Z"⟩ : MethodName)) hown (mvT hZ (hw _ (List.mem_of_getElem? (i := 67) rfl))) (mvT hZ (hw _ (List.mem_of_getElem? (i := 50) rfl))) (mvT hZ (hw _ (List.mem_of_getElem? (i := 51) rfl))) (mvT hZ (hw _ (List.mem_of_getElem? (i := 52) rfl))) (by decide) (backOf (W := 0) (rm10 l Z a0 hw [] p1 aP clP h0 n0 Z0 S_P Ar_P sz_P tab_P) hZ (hw _ (List.mem_of_getElem? (i := 52) rfl)) (hw _ (List.mem_of_getElem? (i := 51) rfl)) (by decide) (by decide)) (g := (mkF m 13 #[.val (.int p1), .val (.int p2), .val (.int p3), .val (.int (-1 : Int32)), .val (.int (0 : Int32))] [(.int p1)])) rfl (by rw [hml]; rfl) (argsL := [(.int p1)]) (rest := []) (lenOf own_pd2 rfl) rfl (by show 2 * 0 + _ ≤ _; exact Nat.le_of_eq rfl) (hb hby d12_13) (fun _ _ => ⟨rfl, e12, (by decide : 0 + 0 ≤ _), (by decide : 0 + 0 ≤ _)⟩)
    dsimp only [Pt.U, Pt.locs, Pt.cells, Pt.slots] at X14 l14 y14 z14 st14 hQ14
    subst l14 y14 z14
    obtain ⟨rfl, N14q, e14⟩ := hQ14
    have N14 := Fr.app N12 N14q
    refine own_go st14 ?_
    show own_G p.tables e below T14 (mkF m 16 #[.val (.int p1), .val (.int p2), .val (.int p3), .val (.int (-1 : Int32)), .val (.int (0 : Int32))] [(.int (own_isp p1))]) _
    by_cases hc16_15 : (own_isp p1) = (0 : Int32)
    · skip
      refine own_go (fun t_ k_ => XS.ifNo X14.here hx rfl (hb hby d12_16) rfl ((if0 _ _).trans (teq hc16_15).2) k_) ?_
      show own_G p.tables e below T14 (mkF m 19 #[.val (.int p1), .val (.int p2), .val (.int p3), .val (.int (-1 : Int32)), .val (.int (0 : Int32))] []) _
      refine own_go (fun t_ k_ => XS.iloadN X14.here hx rfl (hb hby d12_19) rfl k_) ?_
      show own_G p.tables e below T14 (mkF m 20 #[.val (.int p1), .val (.int p2), .val (.int p3), .val (.int (-1 : Int32)), .val (.int (0 : Int32))] [(.int p1)]) _
      exact own_end (v := some (.int p1)) X14 Bd.notSynchronized (fun h => by rw [Bd.returns] at h; cases h) (fun fs hr => retI X14 hx Bd.returns (hb hby d12_20) hr) e14 ⟨congrArg (fun z => some (Value.int z)) (by unfold own_ref3; rw [if_pos hc9_13, if_pos hc16_15]), N14, rfl⟩ (by decide) (by decide)
    · skip
      refine own_go (fun t_ k_ => XS.ifYes X14.here hx rfl (pc0 := 16) (pc' := 21) rfl (hb hby d12_16) rfl ((if0 _ _).trans (feq hc16_15).2) (by decide) (by decide) k_) ?_
      show own_G p.tables e below T14 (mkF m 21 #[.val (.int p1), .val (.int p2), .val (.int p3), .val (.int (-1 : Int32)), .val (.int (0 : Int32))] []) _
      refine own_go (fun t_ k_ => XS.iconst X14.here hx rfl (hb hby d12_21) k_) ?_
      show own_G p.tables e below T14 (mkF m 22 #[.val (.int p1), .val (.int p2), .val (.int p3), .val (.int (-1 : Int32)), .val (.int (0 : Int32))] [(.int (1 : Int32))]) _
      refine own_go (fun t_ k_ => XS.istore X14.here hx rfl (hb hby d12_22) rfl (l' := #[.val (.int p1), .val (.int p2), .val (.int p3), .val (.int (-1 : Int32)), .val (.int (1 : Int32))]) rfl k_) ?_
      show own_G p.tables e below T14 (mkF m 24 #[.val (.int p1), .val (.int p2), .val (.int p3), .val (.int (-1 : Int32)), .val (.int (1 : Int32))] []) _
      exact tailb _ _ _ X14 e14 N14 (by unfold own_ref3; rw [if_pos hc9_13, if_neg hc16_15])
  · skip
    refine own_go (fun t_ k_ => XS.ifYes X12.here hx rfl (pc0 := 9) (pc' := 24) rfl (hb hby d12_9) rfl ((if0 _ _).trans (feq hc9_13).2) (by decide) (by decide) k_) ?_
    show own_G p.tables e below T12 (mkF m 24 #[.val (.int p1), .val (.int p2), .val (.int p3), .val (.int (-1 : Int32)), .val (.int (0 : Int32))] []) _
    exact tailb _ _ _ X12 e12 N12 (by unfold own_ref3; rw [if_neg hc9_13])
theorem ef_0 (m : MethodId) (p1 : Int32) (p2 : Int32) : entryFrame m #[(.int p1), (.int p2)] maxLocals = mkF m 0 #[.val (.int p1), .val (.int p2), .unset, .unset, .unset, .unset, .unset, .unset, .unset, .unset, .unset, .unset, .unset, .unset] [] := by first | (simp [entryFrame, mkF, argsToLocals, Value.category, maxLocals]; done) | rfl
def Q0 (Z : State) (p1 : Int32) (p2 : Int32) (aP : Addr) (clP : Cell) (h0 : Heap) (n0 : Nat) (v : Option Value) (h : Heap) (L : List Loc) : Prop := v = some (.int (1 : Int32)) ∧ Fr n0 L
set_option maxRecDepth 65536 in
set_option maxHeartbeats 40000000 in
theorem rm0 (l : Launch) (Z : State) (a0 : Array Value) (hw : ∀ d ∈ tables_1, d.before a0 Z = true) (ws : List Jvm.Cond) (p1 : Int32) (p2 : Int32) (aP : Addr) (clP : Cell) (h0 : Heap) (n0 : Nat) (Z0 : n0 ≤ h0.size) (S_P : Sta Z h0 "com/example/einzug/einzug/rules/PermittedCharacters" "PERMITTED" "[Z" (.ref aP)) (Ar_P : Arr Z h0 aP clP .boolean) (sz_P : clP.slots.size = 256) (tab_P : ∀ k, k < 256 → clP.slots[k]? = some (.int (own_perm k))) :
    MetFree l x (head1 (Jvm.Cond.code x code maxLocals ret :: ws) room_1) (fun a U => a = #[(.int p1), (.int p2)] ∧ Z.Warmed39 U.vm ∧ U.heap = h0) (fun _ _ _ _ _ => True) (fun _ U o U' => ∃ v L, o = .returned v ∧ Q0 Z p1 p2 aP clP h0 n0 v U'.heap L ∧ FrameEnd U o U' L 24 192) := by
  refine MetFree.of_bodySF (plainFor_of_name own_pn1) hisR ?_
  intro p e s m args below meth c s₁ Bd hml0 hP hK
  obtain ⟨rfl, hZ, hh⟩ := hP
  have hx := Bd.exec
  have hby := Bd.bytes
  have hml : c.maxLocals = 14 := hml0
  have hown : s.vm.findClass "com/example/einzug/einzug/core/TextCharactersClosePinLaw" = some m.cls := findClass_of_methodNamed Bd.named
  have hnm := (name_of_methodNamed Bd.named Bd.method).1
  have X0 : Stand p l e room_1 s m #[(.int p1), (.int p2)] below meth c s₁ [] 0 0 := Stand.of_body Bd
  have e0 : s₁.heap = h0 := by rw [← hh, Bd.state]; rfl
  have N0 := Fr.nil n0
  refine own_top (Q := Q0 Z p1 p2 aP clP h0 n0) (ef_0 m p1 p2) ?_
  show own_G p.tables e below s₁ (mkF m 0 #[.val (.int p1), .val (.int p2), .unset, .unset, .unset, .unset, .unset, .unset, .unset, .unset, .unset, .unset, .unset, .unset] []) _
  refine own_go (fun t_ k_ => XS.iloadN X0.here hx rfl (hb hby at_0) rfl k_) ?_
  show own_G p.tables e below s₁ (mkF m 1 #[.val (.int p1), .val (.int p2), .unset, .unset, .unset, .unset, .unset, .unset, .unset, .unset, .unset, .unset, .unset, .unset] [(.int p1)]) _
  refine own_go (fun t_ k_ => XS.sipush X0.here hx rfl (hb hby at_1) k_) ?_
  show own_G p.tables e below s₁ (mkF m 4 #[.val (.int p1), .val (.int p2), .unset, .unset, .unset, .unset, .unset, .unset, .unset, .unset, .unset, .unset, .unset, .unset] [(.int (255 : Int32)), (.int p1)]) _
  refine own_go (fun t_ k_ => XS.iand X0.here hx rfl (hb hby at_4) rfl k_) ?_
  show own_G p.tables e below s₁ (mkF m 5 #[.val (.int p1), .val (.int p2), .unset, .unset, .unset, .unset, .unset, .unset, .unset, .unset, .unset, .unset, .unset, .unset] [(.int (p1 &&& (255 : Int32)))]) _
  refine own_go (fun t_ k_ => XS.i2c X0.here hx rfl (hb hby at_5) rfl k_) ?_
  show own_G p.tables e below s₁ (mkF m 6 #[.val (.int p1), .val (.int p2), .unset, .unset, .unset, .unset, .unset, .unset, .unset, .unset, .unset, .unset, .unset, .unset] [(.int ((p1 &&& (255 : Int32)).toUInt32.toUInt16.toUInt32.toInt32))]) _
  rw [i2c_mask]
  show own_G p.tables e below s₁ (mkF m 6 #[.val (.int p1), .val (.int p2), .unset, .unset, .unset, .unset, .unset, .unset, .unset, .unset, .unset, .unset, .unset, .unset] [(.int (p1 &&& (255 : Int32)))]) _
  refine own_go (fun t_ k_ => XS.istoreN X0.here hx rfl (hb hby at_6) rfl (l' := #[.val (.int p1), .val (.int p2), .val (.int (p1 &&& (255 : Int32))), .unset, .unset, .unset, .unset, .unset, .unset, .unset, .unset, .unset, .unset, .unset]) rfl k_) ?_
  show own_G p.tables e below s₁ (mkF m 7 #[.val (.int p1), .val (.int p2), .val (.int (p1 &&& (255 : Int32))), .unset, .unset, .unset, .unset, .unset, .unset, .unset, .unset, .unset, .unset, .unset] []) _
  refine own_go (fun t_ k_ => XS.iloadN X0.here hx rfl (hb hby at_7) rfl k_) ?_
  show own_G p.tables e below s₁ (mkF m 8 #[.val (.int p1), .val (.int p2), .val (.int (p1 &&& (255 : Int32))), .unset, .unset, .unset, .unset, .unset, .unset, .unset, .unset, .unset, .unset, .unset] [(.int p1)]) _
  refine own_go (fun t_ k_ => XS.bipush X0.here hx rfl (hb hby at_8) k_) ?_
  show own_G p.tables e below s₁ (mkF m 10 #[.val (.int p1), .val (.int p2), .val (.int (p1 &&& (255 : Int32))), .unset, .unset, .unset, .unset, .unset, .unset, .unset, .unset, .unset, .unset, .unset] [(.int (8 : Int32)), (.int p1)]) _
  refine own_go (fun t_ k_ => XS.iushr X0.here hx rfl (hb hby at_10) rfl k_) ?_
  show own_G p.tables e below s₁ (mkF m 11 #[.val (.int p1), .val (.int p2), .val (.int (p1 &&& (255 : Int32))), .unset, .unset, .unset, .unset, .unset, .unset, .unset, .unset, .unset, .unset, .unset] [(.int ((p1.toUInt32 >>> ((8 : Int32) &&& 31).toUInt32).toInt32))]) _
  refine own_go (fun t_ k_ => XS.sipush X0.here hx rfl (hb hby at_11) k_) ?_
  show own_G p.tables e below s₁ (mkF m 14 #[.val (.int p1), .val (.int p2), .val (.int (p1 &&& (255 : Int32))), .unset, .unset, .unset, .unset, .unset, .unset, .unset, .unset, .unset, .unset, .unset] [(.int (255 : Int32)), (.int ((p1.toUInt32 >>> ((8 : Int32) &&& 31).toUInt32).toInt32))]) _
  refine own_go (fun t_ k_ => XS.iand X0.here hx rfl (hb hby at_14) rfl k_) ?_
  show own_G p.tables e below s₁ (mkF m 15 #[.val (.int p1), .val (.int p2), .val (.int (p1 &&& (255 : Int32))), .unset, .unset, .unset, .unset, .unset, .unset, .unset, .unset, .unset, .unset, .unset] [(.int (((p1.toUInt32 >>> ((8 : Int32) &&& 31).toUInt32).toInt32) &&& (255 : Int32)))]) _
  refine own_go (fun t_ k_ => XS.i2c X0.here hx rfl (hb hby at_15) rfl k_) ?_
  show own_G p.tables e below s₁ (mkF m 16 #[.val (.int p1), .val (.int p2), .val (.int (p1 &&& (255 : Int32))), .unset, .unset, .unset, .unset, .unset, .unset, .unset, .unset, .unset, .unset, .unset] [(.int ((((p1.toUInt32 >>> ((8 : Int32) &&& 31).toUInt32).toInt32) &&& (255 : Int32)).toUInt32.toUInt16.toUInt32.toInt32))]) _
  rw [i2c_mask]
  show own_G p.tables e below s₁ (mkF m 16 #[.val (.int p1), .val (.int p2), .val (.int (p1 &&& (255 : Int32))), .unset, .unset, .unset, .unset, .unset, .unset, .unset, .unset, .unset, .unset, .unset] [(.int (((p1.toUInt32 >>> ((8 : Int32) &&& 31).toUInt32).toInt32) &&& (255 : Int32)))]) _
  refine own_go (fun t_ k_ => XS.istoreN X0.here hx rfl (hb hby at_16) rfl (l' := #[.val (.int p1), .val (.int p2), .val (.int (p1 &&& (255 : Int32))), .val (.int (((p1.toUInt32 >>> ((8 : Int32) &&& 31).toUInt32).toInt32) &&& (255 : Int32))), .unset, .unset, .unset, .unset, .unset, .unset, .unset, .unset, .unset, .unset]) rfl k_) ?_
  show own_G p.tables e below s₁ (mkF m 17 #[.val (.int p1), .val (.int p2), .val (.int (p1 &&& (255 : Int32))), .val (.int (((p1.toUInt32 >>> ((8 : Int32) &&& 31).toUInt32).toInt32) &&& (255 : Int32))), .unset, .unset, .unset, .unset, .unset, .unset, .unset, .unset, .unset, .unset] []) _
  refine own_go (fun t_ k_ => XS.iloadN X0.here hx rfl (hb hby at_17) rfl k_) ?_
  show own_G p.tables e below s₁ (mkF m 18 #[.val (.int p1), .val (.int p2), .val (.int (p1 &&& (255 : Int32))), .val (.int (((p1.toUInt32 >>> ((8 : Int32) &&& 31).toUInt32).toInt32) &&& (255 : Int32))), .unset, .unset, .unset, .unset, .unset, .unset, .unset, .unset, .unset, .unset] [(.int p1)]) _
  refine own_go (fun t_ k_ => XS.bipush X0.here hx rfl (hb hby at_18) k_) ?_
  show own_G p.tables e below s₁ (mkF m 20 #[.val (.int p1), .val (.int p2), .val (.int (p1 &&& (255 : Int32))), .val (.int (((p1.toUInt32 >>> ((8 : Int32) &&& 31).toUInt32).toInt32) &&& (255 : Int32))), .unset, .unset, .unset, .unset, .unset, .unset, .unset, .unset, .unset, .unset] [(.int (16 : Int32)), (.int p1)]) _
  refine own_go (fun t_ k_ => XS.iushr X0.here hx rfl (hb hby at_20) rfl k_) ?_
  show own_G p.tables e below s₁ (mkF m 21 #[.val (.int p1), .val (.int p2), .val (.int (p1 &&& (255 : Int32))), .val (.int (((p1.toUInt32 >>> ((8 : Int32) &&& 31).toUInt32).toInt32) &&& (255 : Int32))), .unset, .unset, .unset, .unset, .unset, .unset, .unset, .unset, .unset, .unset] [(.int ((p1.toUInt32 >>> ((16 : Int32) &&& 31).toUInt32).toInt32))]) _
  refine own_go (fun t_ k_ => XS.sipush X0.here hx rfl (hb hby at_21) k_) ?_
  show own_G p.tables e below s₁ (mkF m 24 #[.val (.int p1), .val (.int p2), .val (.int (p1 &&& (255 : Int32))), .val (.int (((p1.toUInt32 >>> ((8 : Int32) &&& 31).toUInt32).toInt32) &&& (255 : Int32))), .unset, .unset, .unset, .unset, .unset, .unset, .unset, .unset, .unset, .unset] [(.int (255 : Int32)), (.int ((p1.toUInt32 >>> ((16 : Int32) &&& 31).toUInt32).toInt32))]) _
  refine own_go (fun t_ k_ => XS.iand X0.here hx rfl (hb hby at_24) rfl k_) ?_
  show own_G p.tables e below s₁ (mkF m 25 #[.val (.int p1), .val (.int p2), .val (.int (p1 &&& (255 : Int32))), .val (.int (((p1.toUInt32 >>> ((8 : Int32) &&& 31).toUInt32).toInt32) &&& (255 : Int32))), .unset, .unset, .unset, .unset, .unset, .unset, .unset, .unset, .unset, .unset] [(.int (((p1.toUInt32 >>> ((16 : Int32) &&& 31).toUInt32).toInt32) &&& (255 : Int32)))]) _
  refine own_go (fun t_ k_ => XS.i2c X0.here hx rfl (hb hby at_25) rfl k_) ?_
  show own_G p.tables e below s₁ (mkF m 26 #[.val (.int p1), .val (.int p2), .val (.int (p1 &&& (255 : Int32))), .val (.int (((p1.toUInt32 >>> ((8 : Int32) &&& 31).toUInt32).toInt32) &&& (255 : Int32))), .unset, .unset, .unset, .unset, .unset, .unset, .unset, .unset, .unset, .unset] [(.int ((((p1.toUInt32 >>> ((16 : Int32) &&& 31).toUInt32).toInt32) &&& (255 : Int32)).toUInt32.toUInt16.toUInt32.toInt32))]) _
  rw [i2c_mask]
  show own_G p.tables e below s₁ (mkF m 26 #[.val (.int p1), .val (.int p2), .val (.int (p1 &&& (255 : Int32))), .val (.int (((p1.toUInt32 >>> ((8 : Int32) &&& 31).toUInt32).toInt32) &&& (255 : Int32))), .unset, .unset, .unset, .unset, .unset, .unset, .unset, .unset, .unset, .unset] [(.int (((p1.toUInt32 >>> ((16 : Int32) &&& 31).toUInt32).toInt32) &&& (255 : Int32)))]) _
  refine own_go (fun t_ k_ => XS.istore X0.here hx rfl (hb hby at_26) rfl (l' := #[.val (.int p1), .val (.int p2), .val (.int (p1 &&& (255 : Int32))), .val (.int (((p1.toUInt32 >>> ((8 : Int32) &&& 31).toUInt32).toInt32) &&& (255 : Int32))), .val (.int (((p1.toUInt32 >>> ((16 : Int32) &&& 31).toUInt32).toInt32) &&& (255 : Int32))), .unset, .unset, .unset, .unset, .unset, .unset, .unset, .unset, .unset]) rfl k_) ?_
  show own_G p.tables e below s₁ (mkF m 28 #[.val (.int p1), .val (.int p2), .val (.int (p1 &&& (255 : Int32))), .val (.int (((p1.toUInt32 >>> ((8 : Int32) &&& 31).toUInt32).toInt32) &&& (255 : Int32))), .val (.int (((p1.toUInt32 >>> ((16 : Int32) &&& 31).toUInt32).toInt32) &&& (255 : Int32))), .unset, .unset, .unset, .unset, .unset, .unset, .unset, .unset, .unset] []) _
  refine own_go (fun t_ k_ => XS.iloadN X0.here hx rfl (hb hby at_28) rfl k_) ?_
  show own_G p.tables e below s₁ (mkF m 29 #[.val (.int p1), .val (.int p2), .val (.int (p1 &&& (255 : Int32))), .val (.int (((p1.toUInt32 >>> ((8 : Int32) &&& 31).toUInt32).toInt32) &&& (255 : Int32))), .val (.int (((p1.toUInt32 >>> ((16 : Int32) &&& 31).toUInt32).toInt32) &&& (255 : Int32))), .unset, .unset, .unset, .unset, .unset, .unset, .unset, .unset, .unset] [(.int p2)]) _
  refine own_go (fun t_ k_ => XS.sipush X0.here hx rfl (hb hby at_29) k_) ?_
  show own_G p.tables e below s₁ (mkF m 32 #[.val (.int p1), .val (.int p2), .val (.int (p1 &&& (255 : Int32))), .val (.int (((p1.toUInt32 >>> ((8 : Int32) &&& 31).toUInt32).toInt32) &&& (255 : Int32))), .val (.int (((p1.toUInt32 >>> ((16 : Int32) &&& 31).toUInt32).toInt32) &&& (255 : Int32))), .unset, .unset, .unset, .unset, .unset, .unset, .unset, .unset, .unset] [(.int (255 : Int32)), (.int p2)]) _
  refine own_go (fun t_ k_ => XS.iand X0.here hx rfl (hb hby at_32) rfl k_) ?_
  show own_G p.tables e below s₁ (mkF m 33 #[.val (.int p1), .val (.int p2), .val (.int (p1 &&& (255 : Int32))), .val (.int (((p1.toUInt32 >>> ((8 : Int32) &&& 31).toUInt32).toInt32) &&& (255 : Int32))), .val (.int (((p1.toUInt32 >>> ((16 : Int32) &&& 31).toUInt32).toInt32) &&& (255 : Int32))), .unset, .unset, .unset, .unset, .unset, .unset, .unset, .unset, .unset] [(.int (p2 &&& (255 : Int32)))]) _
  refine own_go (fun t_ k_ => XS.i2c X0.here hx rfl (hb hby at_33) rfl k_) ?_
  show own_G p.tables e below s₁ (mkF m 34 #[.val (.int p1), .val (.int p2), .val (.int (p1 &&& (255 : Int32))), .val (.int (((p1.toUInt32 >>> ((8 : Int32) &&& 31).toUInt32).toInt32) &&& (255 : Int32))), .val (.int (((p1.toUInt32 >>> ((16 : Int32) &&& 31).toUInt32).toInt32) &&& (255 : Int32))), .unset, .unset, .unset, .unset, .unset, .unset, .unset, .unset, .unset] [(.int ((p2 &&& (255 : Int32)).toUInt32.toUInt16.toUInt32.toInt32))]) _
  rw [i2c_mask]
  show own_G p.tables e below s₁ (mkF m 34 #[.val (.int p1), .val (.int p2), .val (.int (p1 &&& (255 : Int32))), .val (.int (((p1.toUInt32 >>> ((8 : Int32) &&& 31).toUInt32).toInt32) &&& (255 : Int32))), .val (.int (((p1.toUInt32 >>> ((16 : Int32) &&& 31).toUInt32).toInt32) &&& (255 : Int32))), .unset, .unset, .unset, .unset, .unset, .unset, .unset, .unset, .unset] [(.int (p2 &&& (255 : Int32)))]) _
  refine own_go (fun t_ k_ => XS.istore X0.here hx rfl (hb hby at_34) rfl (l' := #[.val (.int p1), .val (.int p2), .val (.int (p1 &&& (255 : Int32))), .val (.int (((p1.toUInt32 >>> ((8 : Int32) &&& 31).toUInt32).toInt32) &&& (255 : Int32))), .val (.int (((p1.toUInt32 >>> ((16 : Int32) &&& 31).toUInt32).toInt32) &&& (255 : Int32))), .val (.int (p2 &&& (255 : Int32))), .unset, .unset, .unset, .unset, .unset, .unset, .unset, .unset]) rfl k_) ?_
  show own_G p.tables e below s₁ (mkF m 36 #[.val (.int p1), .val (.int p2), .val (.int (p1 &&& (255 : Int32))), .val (.int (((p1.toUInt32 >>> ((8 : Int32) &&& 31).toUInt32).toInt32) &&& (255 : Int32))), .val (.int (((p1.toUInt32 >>> ((16 : Int32) &&& 31).toUInt32).toInt32) &&& (255 : Int32))), .val (.int (p2 &&& (255 : Int32))), .unset, .unset, .unset, .unset, .unset, .unset, .unset, .unset] []) _
  refine own_go (fun t_ k_ => XS.iloadN X0.here hx rfl (hb hby at_36) rfl k_) ?_
  show own_G p.tables e below s₁ (mkF m 37 #[.val (.int p1), .val (.int p2), .val (.int (p1 &&& (255 : Int32))), .val (.int (((p1.toUInt32 >>> ((8 : Int32) &&& 31).toUInt32).toInt32) &&& (255 : Int32))), .val (.int (((p1.toUInt32 >>> ((16 : Int32) &&& 31).toUInt32).toInt32) &&& (255 : Int32))), .val (.int (p2 &&& (255 : Int32))), .unset, .unset, .unset, .unset, .unset, .unset, .unset, .unset] [(.int p2)]) _
  refine own_go (fun t_ k_ => XS.bipush X0.here hx rfl (hb hby at_37) k_) ?_
  show own_G p.tables e below s₁ (mkF m 39 #[.val (.int p1), .val (.int p2), .val (.int (p1 &&& (255 : Int32))), .val (.int (((p1.toUInt32 >>> ((8 : Int32) &&& 31).toUInt32).toInt32) &&& (255 : Int32))), .val (.int (((p1.toUInt32 >>> ((16 : Int32) &&& 31).toUInt32).toInt32) &&& (255 : Int32))), .val (.int (p2 &&& (255 : Int32))), .unset, .unset, .unset, .unset, .unset, .unset, .unset, .unset] [(.int (8 : Int32)), (.int p2)]) _
  refine own_go (fun t_ k_ => XS.iushr X0.here hx rfl (hb hby at_39) rfl k_) ?_
  show own_G p.tables e below s₁ (mkF m 40 #[.val (.int p1), .val (.int p2), .val (.int (p1 &&& (255 : Int32))), .val (.int (((p1.toUInt32 >>> ((8 : Int32) &&& 31).toUInt32).toInt32) &&& (255 : Int32))), .val (.int (((p1.toUInt32 >>> ((16 : Int32) &&& 31).toUInt32).toInt32) &&& (255 : Int32))), .val (.int (p2 &&& (255 : Int32))), .unset, .unset, .unset, .unset, .unset, .unset, .unset, .unset] [(.int ((p2.toUInt32 >>> ((8 : Int32) &&& 31).toUInt32).toInt32))]) _
  refine own_go (fun t_ k_ => XS.sipush X0.here hx rfl (hb hby at_40) k_) ?_
  show own_G p.tables e below s₁ (mkF m 43 #[.val (.int p1), .val (.int p2), .val (.int (p1 &&& (255 : Int32))), .val (.int (((p1.toUInt32 >>> ((8 : Int32) &&& 31).toUInt32).toInt32) &&& (255 : Int32))), .val (.int (((p1.toUInt32 >>> ((16 : Int32) &&& 31).toUInt32).toInt32) &&& (255 : Int32))), .val (.int (p2 &&& (255 : Int32))), .unset, .unset, .unset, .unset, .unset, .unset, .unset, .unset] [(.int (255 : Int32)), (.int ((p2.toUInt32 >>> ((8 : Int32) &&& 31).toUInt32).toInt32))]) _
  refine own_go (fun t_ k_ => XS.iand X0.here hx rfl (hb hby at_43) rfl k_) ?_
  show own_G p.tables e below s₁ (mkF m 44 #[.val (.int p1), .val (.int p2), .val (.int (p1 &&& (255 : Int32))), .val (.int (((p1.toUInt32 >>> ((8 : Int32) &&& 31).toUInt32).toInt32) &&& (255 : Int32))), .val (.int (((p1.toUInt32 >>> ((16 : Int32) &&& 31).toUInt32).toInt32) &&& (255 : Int32))), .val (.int (p2 &&& (255 : Int32))), .unset, .unset, .unset, .unset, .unset, .unset, .unset, .unset] [(.int (((p2.toUInt32 >>> ((8 : Int32) &&& 31).toUInt32).toInt32) &&& (255 : Int32)))]) _
  refine own_go (fun t_ k_ => XS.i2c X0.here hx rfl (hb hby at_44) rfl k_) ?_
  show own_G p.tables e below s₁ (mkF m 45 #[.val (.int p1), .val (.int p2), .val (.int (p1 &&& (255 : Int32))), .val (.int (((p1.toUInt32 >>> ((8 : Int32) &&& 31).toUInt32).toInt32) &&& (255 : Int32))), .val (.int (((p1.toUInt32 >>> ((16 : Int32) &&& 31).toUInt32).toInt32) &&& (255 : Int32))), .val (.int (p2 &&& (255 : Int32))), .unset, .unset, .unset, .unset, .unset, .unset, .unset, .unset] [(.int ((((p2.toUInt32 >>> ((8 : Int32) &&& 31).toUInt32).toInt32) &&& (255 : Int32)).toUInt32.toUInt16.toUInt32.toInt32))]) _
  rw [i2c_mask]
  show own_G p.tables e below s₁ (mkF m 45 #[.val (.int p1), .val (.int p2), .val (.int (p1 &&& (255 : Int32))), .val (.int (((p1.toUInt32 >>> ((8 : Int32) &&& 31).toUInt32).toInt32) &&& (255 : Int32))), .val (.int (((p1.toUInt32 >>> ((16 : Int32) &&& 31).toUInt32).toInt32) &&& (255 : Int32))), .val (.int (p2 &&& (255 : Int32))), .unset, .unset, .unset, .unset, .unset, .unset, .unset, .unset] [(.int (((p2.toUInt32 >>> ((8 : Int32) &&& 31).toUInt32).toInt32) &&& (255 : Int32)))]) _
  refine own_go (fun t_ k_ => XS.istore X0.here hx rfl (hb hby at_45) rfl (l' := #[.val (.int p1), .val (.int p2), .val (.int (p1 &&& (255 : Int32))), .val (.int (((p1.toUInt32 >>> ((8 : Int32) &&& 31).toUInt32).toInt32) &&& (255 : Int32))), .val (.int (((p1.toUInt32 >>> ((16 : Int32) &&& 31).toUInt32).toInt32) &&& (255 : Int32))), .val (.int (p2 &&& (255 : Int32))), .val (.int (((p2.toUInt32 >>> ((8 : Int32) &&& 31).toUInt32).toInt32) &&& (255 : Int32))), .unset, .unset, .unset, .unset, .unset, .unset, .unset]) rfl k_) ?_
  show own_G p.tables e below s₁ (mkF m 47 #[.val (.int p1), .val (.int p2), .val (.int (p1 &&& (255 : Int32))), .val (.int (((p1.toUInt32 >>> ((8 : Int32) &&& 31).toUInt32).toInt32) &&& (255 : Int32))), .val (.int (((p1.toUInt32 >>> ((16 : Int32) &&& 31).toUInt32).toInt32) &&& (255 : Int32))), .val (.int (p2 &&& (255 : Int32))), .val (.int (((p2.toUInt32 >>> ((8 : Int32) &&& 31).toUInt32).toInt32) &&& (255 : Int32))), .unset, .unset, .unset, .unset, .unset, .unset, .unset] []) _
  refine own_go (fun t_ k_ => XS.iloadN X0.here hx rfl (hb hby at_47) rfl k_) ?_
  show own_G p.tables e below s₁ (mkF m 48 #[.val (.int p1), .val (.int p2), .val (.int (p1 &&& (255 : Int32))), .val (.int (((p1.toUInt32 >>> ((8 : Int32) &&& 31).toUInt32).toInt32) &&& (255 : Int32))), .val (.int (((p1.toUInt32 >>> ((16 : Int32) &&& 31).toUInt32).toInt32) &&& (255 : Int32))), .val (.int (p2 &&& (255 : Int32))), .val (.int (((p2.toUInt32 >>> ((8 : Int32) &&& 31).toUInt32).toInt32) &&& (255 : Int32))), .unset, .unset, .unset, .unset, .unset, .unset, .unset] [(.int p2)]) _
  refine own_go (fun t_ k_ => XS.bipush X0.here hx rfl (hb hby at_48) k_) ?_
  show own_G p.tables e below s₁ (mkF m 50 #[.val (.int p1), .val (.int p2), .val (.int (p1 &&& (255 : Int32))), .val (.int (((p1.toUInt32 >>> ((8 : Int32) &&& 31).toUInt32).toInt32) &&& (255 : Int32))), .val (.int (((p1.toUInt32 >>> ((16 : Int32) &&& 31).toUInt32).toInt32) &&& (255 : Int32))), .val (.int (p2 &&& (255 : Int32))), .val (.int (((p2.toUInt32 >>> ((8 : Int32) &&& 31).toUInt32).toInt32) &&& (255 : Int32))), .unset, .unset, .unset, .unset, .unset, .unset, .unset] [(.int (16 : Int32)), (.int p2)]) _
  refine own_go (fun t_ k_ => XS.iushr X0.here hx rfl (hb hby at_50) rfl k_) ?_
  show own_G p.tables e below s₁ (mkF m 51 #[.val (.int p1), .val (.int p2), .val (.int (p1 &&& (255 : Int32))), .val (.int (((p1.toUInt32 >>> ((8 : Int32) &&& 31).toUInt32).toInt32) &&& (255 : Int32))), .val (.int (((p1.toUInt32 >>> ((16 : Int32) &&& 31).toUInt32).toInt32) &&& (255 : Int32))), .val (.int (p2 &&& (255 : Int32))), .val (.int (((p2.toUInt32 >>> ((8 : Int32) &&& 31).toUInt32).toInt32) &&& (255 : Int32))), .unset, .unset, .unset, .unset, .unset, .unset, .unset] [(.int ((p2.toUInt32 >>> ((16 : Int32) &&& 31).toUInt32).toInt32))]) _
  refine own_go (fun t_ k_ => XS.sipush X0.here hx rfl (hb hby at_51) k_) ?_
  show own_G p.tables e below s₁ (mkF m 54 #[.val (.int p1), .val (.int p2), .val (.int (p1 &&& (255 : Int32))), .val (.int (((p1.toUInt32 >>> ((8 : Int32) &&& 31).toUInt32).toInt32) &&& (255 : Int32))), .val (.int (((p1.toUInt32 >>> ((16 : Int32) &&& 31).toUInt32).toInt32) &&& (255 : Int32))), .val (.int (p2 &&& (255 : Int32))), .val (.int (((p2.toUInt32 >>> ((8 : Int32) &&& 31).toUInt32).toInt32) &&& (255 : Int32))), .unset, .unset, .unset, .unset, .unset, .unset, .unset] [(.int (255 : Int32)), (.int ((p2.toUInt32 >>> ((16 : Int32) &&& 31).toUInt32).toInt32))]) _
  refine own_go (fun t_ k_ => XS.iand X0.here hx rfl (hb hby at_54) rfl k_) ?_
  show own_G p.tables e below s₁ (mkF m 55 #[.val (.int p1), .val (.int p2), .val (.int (p1 &&& (255 : Int32))), .val (.int (((p1.toUInt32 >>> ((8 : Int32) &&& 31).toUInt32).toInt32) &&& (255 : Int32))), .val (.int (((p1.toUInt32 >>> ((16 : Int32) &&& 31).toUInt32).toInt32) &&& (255 : Int32))), .val (.int (p2 &&& (255 : Int32))), .val (.int (((p2.toUInt32 >>> ((8 : Int32) &&& 31).toUInt32).toInt32) &&& (255 : Int32))), .unset, .unset, .unset, .unset, .unset, .unset, .unset] [(.int (((p2.toUInt32 >>> ((16 : Int32) &&& 31).toUInt32).toInt32) &&& (255 : Int32)))]) _
  refine own_go (fun t_ k_ => XS.i2c X0.here hx rfl (hb hby at_55) rfl k_) ?_
  show own_G p.tables e below s₁ (mkF m 56 #[.val (.int p1), .val (.int p2), .val (.int (p1 &&& (255 : Int32))), .val (.int (((p1.toUInt32 >>> ((8 : Int32) &&& 31).toUInt32).toInt32) &&& (255 : Int32))), .val (.int (((p1.toUInt32 >>> ((16 : Int32) &&& 31).toUInt32).toInt32) &&& (255 : Int32))), .val (.int (p2 &&& (255 : Int32))), .val (.int (((p2.toUInt32 >>> ((8 : Int32) &&& 31).toUInt32).toInt32) &&& (255 : Int32))), .unset, .unset, .unset, .unset, .unset, .unset, .unset] [(.int ((((p2.toUInt32 >>> ((16 : Int32) &&& 31).toUInt32).toInt32) &&& (255 : Int32)).toUInt32.toUInt16.toUInt32.toInt32))]) _
  rw [i2c_mask]
  show own_G p.tables e below s₁ (mkF m 56 #[.val (.int p1), .val (.int p2), .val (.int (p1 &&& (255 : Int32))), .val (.int (((p1.toUInt32 >>> ((8 : Int32) &&& 31).toUInt32).toInt32) &&& (255 : Int32))), .val (.int (((p1.toUInt32 >>> ((16 : Int32) &&& 31).toUInt32).toInt32) &&& (255 : Int32))), .val (.int (p2 &&& (255 : Int32))), .val (.int (((p2.toUInt32 >>> ((8 : Int32) &&& 31).toUInt32).toInt32) &&& (255 : Int32))), .unset, .unset, .unset, .unset, .unset, .unset, .unset] [(.int (((p2.toUInt32 >>> ((16 : Int32) &&& 31).toUInt32).toInt32) &&& (255 : Int32)))]) _
  refine own_go (fun t_ k_ => XS.istore X0.here hx rfl (hb hby at_56) rfl (l' := #[.val (.int p1), .val (.int p2), .val (.int (p1 &&& (255 : Int32))), .val (.int (((p1.toUInt32 >>> ((8 : Int32) &&& 31).toUInt32).toInt32) &&& (255 : Int32))), .val (.int (((p1.toUInt32 >>> ((16 : Int32) &&& 31).toUInt32).toInt32) &&& (255 : Int32))), .val (.int (p2 &&& (255 : Int32))), .val (.int (((p2.toUInt32 >>> ((8 : Int32) &&& 31).toUInt32).toInt32) &&& (255 : Int32))), .val (.int (((p2.toUInt32 >>> ((16 : Int32) &&& 31).toUInt32).toInt32) &&& (255 : Int32))), .unset, .unset, .unset, .unset, .unset, .unset]) rfl k_) ?_
  show own_G p.tables e below s₁ (mkF m 58 #[.val (.int p1), .val (.int p2), .val (.int (p1 &&& (255 : Int32))), .val (.int (((p1.toUInt32 >>> ((8 : Int32) &&& 31).toUInt32).toInt32) &&& (255 : Int32))), .val (.int (((p1.toUInt32 >>> ((16 : Int32) &&& 31).toUInt32).toInt32) &&& (255 : Int32))), .val (.int (p2 &&& (255 : Int32))), .val (.int (((p2.toUInt32 >>> ((8 : Int32) &&& 31).toUInt32).toInt32) &&& (255 : Int32))), .val (.int (((p2.toUInt32 >>> ((16 : Int32) &&& 31).toUInt32).toInt32) &&& (255 : Int32))), .unset, .unset, .unset, .unset, .unset, .unset] []) _
  refine own_go (fun t_ k_ => XS.iconst X0.here hx rfl (hb hby at_58) k_) ?_
  show own_G p.tables e below s₁ (mkF m 59 #[.val (.int p1), .val (.int p2), .val (.int (p1 &&& (255 : Int32))), .val (.int (((p1.toUInt32 >>> ((8 : Int32) &&& 31).toUInt32).toInt32) &&& (255 : Int32))), .val (.int (((p1.toUInt32 >>> ((16 : Int32) &&& 31).toUInt32).toInt32) &&& (255 : Int32))), .val (.int (p2 &&& (255 : Int32))), .val (.int (((p2.toUInt32 >>> ((8 : Int32) &&& 31).toUInt32).toInt32) &&& (255 : Int32))), .val (.int (((p2.toUInt32 >>> ((16 : Int32) &&& 31).toUInt32).toInt32) &&& (255 : Int32))), .unset, .unset, .unset, .unset, .unset, .unset] [(.int (2 : Int32))]) _
  obtain ⟨T1, h1, k1, X1, e1, E1, A1, st1⟩ := newP X0 hx hZ (hw _ (List.mem_of_getElem? (i := 0) rfl)) e0 (g := (mkF m 59 #[.val (.int p1), .val (.int p2), .val (.int (p1 &&& (255 : Int32))), .val (.int (((p1.toUInt32 >>> ((8 : Int32) &&& 31).toUInt32).toInt32) &&& (255 : Int32))), .val (.int (((p1.toUInt32 >>> ((16 : Int32) &&& 31).toUInt32).toInt32) &&& (255 : Int32))), .val (.int (p2 &&& (255 : Int32))), .val (.int (((p2.toUInt32 >>> ((8 : Int32) &&& 31).toUInt32).toInt32) &&& (255 : Int32))), .val (.int (((p2.toUInt32 >>> ((16 : Int32) &&& 31).toUInt32).toInt32) &&& (255 : Int32))), .unset, .unset, .unset, .unset, .unset, .unset] [(.int (2 : Int32))])) rfl (hb hby at_59) rfl (by decide) (cap := 2) (by decide) (by decide) (by decide) (by decide)
  obtain ⟨b1, g1⟩ : ∃ z, z = h0.size := ⟨_, rfl⟩
  rw [← g1] at A1 st1
  have ne2 : aP ≠ b1 := Nat.ne_of_lt (Nat.lt_of_lt_of_le Ar_P.lt (Nat.le_of_eq g1.symm))
  have ge_b1 : n0 ≤ b1 := Nat.le_trans Z0 (Nat.le_of_eq g1.symm)
  have V1 : Arv Z h1 b1 k1 .char (2 : Int32) [(.int (0 : Int32)), (.int (0 : Int32))] (.int (0 : Int32)) := (Arv.new A1 (by decide)).pad (pad_rep [] (.int (0 : Int32)) 2)
  refine own_go st1 ?_
  show own_G p.tables e below T1 (mkF m 61 #[.val (.int p1), .val (.int p2), .val (.int (p1 &&& (255 : Int32))), .val (.int (((p1.toUInt32 >>> ((8 : Int32) &&& 31).toUInt32).toInt32) &&& (255 : Int32))), .val (.int (((p1.toUInt32 >>> ((16 : Int32) &&& 31).toUInt32).toInt32) &&& (255 : Int32))), .val (.int (p2 &&& (255 : Int32))), .val (.int (((p2.toUInt32 >>> ((8 : Int32) &&& 31).toUInt32).toInt32) &&& (255 : Int32))), .val (.int (((p2.toUInt32 >>> ((16 : Int32) &&& 31).toUInt32).toInt32) &&& (255 : Int32))), .unset, .unset, .unset, .unset, .unset, .unset] [(.ref b1)]) _
  refine own_go (fun t_ k_ => XS.dup X1.here hx rfl (hb hby at_61) rfl rfl k_) ?_
  show own_G p.tables e below T1 (mkF m 62 #[.val (.int p1), .val (.int p2), .val (.int (p1 &&& (255 : Int32))), .val (.int (((p1.toUInt32 >>> ((8 : Int32) &&& 31).toUInt32).toInt32) &&& (255 : Int32))), .val (.int (((p1.toUInt32 >>> ((16 : Int32) &&& 31).toUInt32).toInt32) &&& (255 : Int32))), .val (.int (p2 &&& (255 : Int32))), .val (.int (((p2.toUInt32 >>> ((8 : Int32) &&& 31).toUInt32).toInt32) &&& (255 : Int32))), .val (.int (((p2.toUInt32 >>> ((16 : Int32) &&& 31).toUInt32).toInt32) &&& (255 : Int32))), .unset, .unset, .unset, .unset, .unset, .unset] [(.ref b1), (.ref b1)]) _
  refine own_go (fun t_ k_ => XS.iconst X1.here hx rfl (hb hby at_62) k_) ?_
  show own_G p.tables e below T1 (mkF m 63 #[.val (.int p1), .val (.int p2), .val (.int (p1 &&& (255 : Int32))), .val (.int (((p1.toUInt32 >>> ((8 : Int32) &&& 31).toUInt32).toInt32) &&& (255 : Int32))), .val (.int (((p1.toUInt32 >>> ((16 : Int32) &&& 31).toUInt32).toInt32) &&& (255 : Int32))), .val (.int (p2 &&& (255 : Int32))), .val (.int (((p2.toUInt32 >>> ((8 : Int32) &&& 31).toUInt32).toInt32) &&& (255 : Int32))), .val (.int (((p2.toUInt32 >>> ((16 : Int32) &&& 31).toUInt32).toInt32) &&& (255 : Int32))), .unset, .unset, .unset, .unset, .unset, .unset] [(.int (0 : Int32)), (.ref b1), (.ref b1)]) _
  refine own_go (fun t_ k_ => XS.iload X1.here hx rfl (hb hby at_63) rfl k_) ?_
  show own_G p.tables e below T1 (mkF m 65 #[.val (.int p1), .val (.int p2), .val (.int (p1 &&& (255 : Int32))), .val (.int (((p1.toUInt32 >>> ((8 : Int32) &&& 31).toUInt32).toInt32) &&& (255 : Int32))), .val (.int (((p1.toUInt32 >>> ((16 : Int32) &&& 31).toUInt32).toInt32) &&& (255 : Int32))), .val (.int (p2 &&& (255 : Int32))), .val (.int (((p2.toUInt32 >>> ((8 : Int32) &&& 31).toUInt32).toInt32) &&& (255 : Int32))), .val (.int (((p2.toUInt32 >>> ((16 : Int32) &&& 31).toUInt32).toInt32) &&& (255 : Int32))), .unset, .unset, .unset, .unset, .unset, .unset] [(.int (p2 &&& (255 : Int32))), (.int (0 : Int32)), (.ref b1), (.ref b1)]) _
  obtain ⟨cl3, Ar3, q3, S3, M3, H3, G3⟩ := id V1
  have hin3 : ¬ ((0 : Int32) < 0 ∨ cl3.slots.size ≤ ((0 : Int32)).toNatClampNeg) := inb_of S3 ⟨by decide, by decide⟩
  obtain ⟨T3, h3, X3, e3, W3, st3⟩ := stC X1 hx hZ e1 Ar3 (j := (0 : Int32)) hin3 (g := (mkF m 65 #[.val (.int p1), .val (.int p2), .val (.int (p1 &&& (255 : Int32))), .val (.int (((p1.toUInt32 >>> ((8 : Int32) &&& 31).toUInt32).toInt32) &&& (255 : Int32))), .val (.int (((p1.toUInt32 >>> ((16 : Int32) &&& 31).toUInt32).toInt32) &&& (255 : Int32))), .val (.int (p2 &&& (255 : Int32))), .val (.int (((p2.toUInt32 >>> ((8 : Int32) &&& 31).toUInt32).toInt32) &&& (255 : Int32))), .val (.int (((p2.toUInt32 >>> ((16 : Int32) &&& 31).toUInt32).toInt32) &&& (255 : Int32))), .unset, .unset, .unset, .unset, .unset, .unset] [(.int (p2 &&& (255 : Int32))), (.int (0 : Int32)), (.ref b1), (.ref b1)])) rfl rfl (hb hby at_65)
  have N3 := Fr.snoc X3 N0 ge_b1
  have V3 : Arv Z h3 b1 k1 .char (2 : Int32) [(.int (p2 &&& (255 : Int32))), (.int (0 : Int32))] (.int (0 : Int32)) := by
    have q := Arv.set Ar3 q3 S3 M3 H3 G3 (fits_nar_char _) W3 0 rfl (Nat.le_of_ble_eq_true rfl)
    rw [show nar .char (p2 &&& (255 : Int32)) = (p2 &&& (255 : Int32)) from i2c_mask _] at q
    exact q
  refine own_go st3 ?_
  show own_G p.tables e below T3 (mkF m 66 #[.val (.int p1), .val (.int p2), .val (.int (p1 &&& (255 : Int32))), .val (.int (((p1.toUInt32 >>> ((8 : Int32) &&& 31).toUInt32).toInt32) &&& (255 : Int32))), .val (.int (((p1.toUInt32 >>> ((16 : Int32) &&& 31).toUInt32).toInt32) &&& (255 : Int32))), .val (.int (p2 &&& (255 : Int32))), .val (.int (((p2.toUInt32 >>> ((8 : Int32) &&& 31).toUInt32).toInt32) &&& (255 : Int32))), .val (.int (((p2.toUInt32 >>> ((16 : Int32) &&& 31).toUInt32).toInt32) &&& (255 : Int32))), .unset, .unset, .unset, .unset, .unset, .unset] [(.ref b1)]) _
  refine own_go (fun t_ k_ => XS.dup X3.here hx rfl (hb hby at_66) rfl rfl k_) ?_
  show own_G p.tables e below T3 (mkF m 67 #[.val (.int p1), .val (.int p2), .val (.int (p1 &&& (255 : Int32))), .val (.int (((p1.toUInt32 >>> ((8 : Int32) &&& 31).toUInt32).toInt32) &&& (255 : Int32))), .val (.int (((p1.toUInt32 >>> ((16 : Int32) &&& 31).toUInt32).toInt32) &&& (255 : Int32))), .val (.int (p2 &&& (255 : Int32))), .val (.int (((p2.toUInt32 >>> ((8 : Int32) &&& 31).toUInt32).toInt32) &&& (255 : Int32))), .val (.int (((p2.toUInt32 >>> ((16 : Int32) &&& 31).toUInt32).toInt32) &&& (255 : Int32))), .unset, .unset, .unset, .unset, .unset, .unset] [(.ref b1), (.ref b1)]) _
  refine own_go (fun t_ k_ => XS.iconst X3.here hx rfl (hb hby at_67) k_) ?_
  show own_G p.tables e below T3 (mkF m 68 #[.val (.int p1), .val (.int p2), .val (.int (p1 &&& (255 : Int32))), .val (.int (((p1.toUInt32 >>> ((8 : Int32) &&& 31).toUInt32).toInt32) &&& (255 : Int32))), .val (.int (((p1.toUInt32 >>> ((16 : Int32) &&& 31).toUInt32).toInt32) &&& (255 : Int32))), .val (.int (p2 &&& (255 : Int32))), .val (.int (((p2.toUInt32 >>> ((8 : Int32) &&& 31).toUInt32).toInt32) &&& (255 : Int32))), .val (.int (((p2.toUInt32 >>> ((16 : Int32) &&& 31).toUInt32).toInt32) &&& (255 : Int32))), .unset, .unset, .unset, .unset, .unset, .unset] [(.int (1 : Int32)), (.ref b1), (.ref b1)]) _
  refine own_go (fun t_ k_ => XS.iload X3.here hx rfl (hb hby at_68) rfl k_) ?_
  show own_G p.tables e below T3 (mkF m 70 #[.val (.int p1), .val (.int p2), .val (.int (p1 &&& (255 : Int32))), .val (.int (((p1.toUInt32 >>> ((8 : Int32) &&& 31).toUInt32).toInt32) &&& (255 : Int32))), .val (.int (((p1.toUInt32 >>> ((16 : Int32) &&& 31).toUInt32).toInt32) &&& (255 : Int32))), .val (.int (p2 &&& (255 : Int32))), .val (.int (((p2.toUInt32 >>> ((8 : Int32) &&& 31).toUInt32).toInt32) &&& (255 : Int32))), .val (.int (((p2.toUInt32 >>> ((16 : Int32) &&& 31).toUInt32).toInt32) &&& (255 : Int32))), .unset, .unset, .unset, .unset, .unset, .unset] [(.int (((p2.toUInt32 >>> ((8 : Int32) &&& 31).toUInt32).toInt32) &&& (255 : Int32))), (.int (1 : Int32)), (.ref b1), (.ref b1)]) _
  obtain ⟨cl4, Ar4, q4, S4, M4, H4, G4⟩ := id V3
  have hin4 : ¬ ((1 : Int32) < 0 ∨ cl4.slots.size ≤ ((1 : Int32)).toNatClampNeg) := inb_of S4 ⟨by decide, by decide⟩
  obtain ⟨T4, h4, X4, e4, W4, st4⟩ := stC X3 hx hZ e3 Ar4 (j := (1 : Int32)) hin4 (g := (mkF m 70 #[.val (.int p1), .val (.int p2), .val (.int (p1 &&& (255 : Int32))), .val (.int (((p1.toUInt32 >>> ((8 : Int32) &&& 31).toUInt32).toInt32) &&& (255 : Int32))), .val (.int (((p1.toUInt32 >>> ((16 : Int32) &&& 31).toUInt32).toInt32) &&& (255 : Int32))), .val (.int (p2 &&& (255 : Int32))), .val (.int (((p2.toUInt32 >>> ((8 : Int32) &&& 31).toUInt32).toInt32) &&& (255 : Int32))), .val (.int (((p2.toUInt32 >>> ((16 : Int32) &&& 31).toUInt32).toInt32) &&& (255 : Int32))), .unset, .unset, .unset, .unset, .unset, .unset] [(.int (((p2.toUInt32 >>> ((8 : Int32) &&& 31).toUInt32).toInt32) &&& (255 : Int32))), (.int (1 : Int32)), (.ref b1), (.ref b1)])) rfl rfl (hb hby at_70)
  have N4 := Fr.snoc X4 N3 ge_b1
  have V4 : Arv Z h4 b1 k1 .char (2 : Int32) [(.int (p2 &&& (255 : Int32))), (.int (((p2.toUInt32 >>> ((8 : Int32) &&& 31).toUInt32).toInt32) &&& (255 : Int32)))] (.int (0 : Int32)) := by
    have q := Arv.set Ar4 q4 S4 M4 H4 G4 (fits_nar_char _) W4 1 rfl (Nat.le_of_ble_eq_true rfl)
    rw [show nar .char (((p2.toUInt32 >>> ((8 : Int32) &&& 31).toUInt32).toInt32) &&& (255 : Int32)) = (((p2.toUInt32 >>> ((8 : Int32) &&& 31).toUInt32).toInt32) &&& (255 : Int32)) from i2c_mask _] at q
    exact q
  refine own_go st4 ?_
  show own_G p.tables e below T4 (mkF m 71 #[.val (.int p1), .val (.int p2), .val (.int (p1 &&& (255 : Int32))), .val (.int (((p1.toUInt32 >>> ((8 : Int32) &&& 31).toUInt32).toInt32) &&& (255 : Int32))), .val (.int (((p1.toUInt32 >>> ((16 : Int32) &&& 31).toUInt32).toInt32) &&& (255 : Int32))), .val (.int (p2 &&& (255 : Int32))), .val (.int (((p2.toUInt32 >>> ((8 : Int32) &&& 31).toUInt32).toInt32) &&& (255 : Int32))), .val (.int (((p2.toUInt32 >>> ((16 : Int32) &&& 31).toUInt32).toInt32) &&& (255 : Int32))), .unset, .unset, .unset, .unset, .unset, .unset] [(.ref b1)]) _
  refine own_go (fun t_ k_ => XS.astore X4.here hx rfl (hb hby at_71) rfl rfl (l' := #[.val (.int p1), .val (.int p2), .val (.int (p1 &&& (255 : Int32))), .val (.int (((p1.toUInt32 >>> ((8 : Int32) &&& 31).toUInt32).toInt32) &&& (255 : Int32))), .val (.int (((p1.toUInt32 >>> ((16 : Int32) &&& 31).toUInt32).toInt32) &&& (255 : Int32))), .val (.int (p2 &&& (255 : Int32))), .val (.int (((p2.toUInt32 >>> ((8 : Int32) &&& 31).toUInt32).toInt32) &&& (255 : Int32))), .val (.int (((p2.toUInt32 >>> ((16 : Int32) &&& 31).toUInt32).toInt32) &&& (255 : Int32))), .val (.ref b1), .unset, .unset, .unset, .unset, .unset]) rfl k_) ?_
  show own_G p.tables e below T4 (mkF m 73 #[.val (.int p1), .val (.int p2), .val (.int (p1 &&& (255 : Int32))), .val (.int (((p1.toUInt32 >>> ((8 : Int32) &&& 31).toUInt32).toInt32) &&& (255 : Int32))), .val (.int (((p1.toUInt32 >>> ((16 : Int32) &&& 31).toUInt32).toInt32) &&& (255 : Int32))), .val (.int (p2 &&& (255 : Int32))), .val (.int (((p2.toUInt32 >>> ((8 : Int32) &&& 31).toUInt32).toInt32) &&& (255 : Int32))), .val (.int (((p2.toUInt32 >>> ((16 : Int32) &&& 31).toUInt32).toInt32) &&& (255 : Int32))), .val (.ref b1), .unset, .unset, .unset, .unset, .unset] []) _
  refine own_go (fun t_ k_ => XS.iconst X4.here hx rfl (hb hby at_73) k_) ?_
  show own_G p.tables e below T4 (mkF m 74 #[.val (.int p1), .val (.int p2), .val (.int (p1 &&& (255 : Int32))), .val (.int (((p1.toUInt32 >>> ((8 : Int32) &&& 31).toUInt32).toInt32) &&& (255 : Int32))), .val (.int (((p1.toUInt32 >>> ((16 : Int32) &&& 31).toUInt32).toInt32) &&& (255 : Int32))), .val (.int (p2 &&& (255 : Int32))), .val (.int (((p2.toUInt32 >>> ((8 : Int32) &&& 31).toUInt32).toInt32) &&& (255 : Int32))), .val (.int (((p2.toUInt32 >>> ((16 : Int32) &&& 31).toUInt32).toInt32) &&& (255 : Int32))), .val (.ref b1), .unset, .unset, .unset, .unset, .unset] [(.int (3 : Int32))]) _
  obtain ⟨T5, h5, k5, X5, e5, E5, A5, st5⟩ := newP X4 hx hZ (hw _ (List.mem_of_getElem? (i := 0) rfl)) e4 (g := (mkF m 74 #[.val (.int p1), .val (.int p2), .val (.int (p1 &&& (255 : Int32))), .val (.int (((p1.toUInt32 >>> ((8 : Int32) &&& 31).toUInt32).toInt32) &&& (255 : Int32))), .val (.int (((p1.toUInt32 >>> ((16 : Int32) &&& 31).toUInt32).toInt32) &&& (255 : Int32))), .val (.int (p2 &&& (255 : Int32))), .val (.int (((p2.toUInt32 >>> ((8 : Int32) &&& 31).toUInt32).toInt32) &&& (255 : Int32))), .val (.int (((p2.toUInt32 >>> ((16 : Int32) &&& 31).toUInt32).toInt32) &&& (255 : Int32))), .val (.ref b1), .unset, .unset, .unset, .unset, .unset] [(.int (3 : Int32))])) rfl (hb hby at_74) rfl (by decide) (cap := 3) (by decide) (by decide) (by decide) (by decide)
  obtain ⟨b5, g5⟩ : ∃ z, z = h4.size := ⟨_, rfl⟩
  rw [← g5] at A5 st5
  have f6 : Arr Z h4 aP clP .boolean := (((Ar_P.ext E1).other W3 ne2).other W4 ne2)
  have ne7 : aP ≠ b5 := Nat.ne_of_lt (Nat.lt_of_lt_of_le f6.lt (Nat.le_of_eq g5.symm))
  have ne8 : b1 ≠ b5 := Nat.ne_of_lt (Nat.lt_of_lt_of_le V4.lt (Nat.le_of_eq g5.symm))
  have f9 : n0 ≤ h4.size := (Nat.le_trans (Nat.le_trans (Nat.le_trans Z0 E1.1) (Keep.of_wr W3).1) (Keep.of_wr W4).1)
  have ge_b5 : n0 ≤ b5 := Nat.le_trans f9 (Nat.le_of_eq g5.symm)
  have V5 : Arv Z h5 b5 k5 .char (3 : Int32) [(.int (0 : Int32)), (.int (0 : Int32)), (.int (0 : Int32))] (.int (0 : Int32)) := (Arv.new A5 (by decide)).pad (pad_rep [] (.int (0 : Int32)) 3)
  refine own_go st5 ?_
  show own_G p.tables e below T5 (mkF m 76 #[.val (.int p1), .val (.int p2), .val (.int (p1 &&& (255 : Int32))), .val (.int (((p1.toUInt32 >>> ((8 : Int32) &&& 31).toUInt32).toInt32) &&& (255 : Int32))), .val (.int (((p1.toUInt32 >>> ((16 : Int32) &&& 31).toUInt32).toInt32) &&& (255 : Int32))), .val (.int (p2 &&& (255 : Int32))), .val (.int (((p2.toUInt32 >>> ((8 : Int32) &&& 31).toUInt32).toInt32) &&& (255 : Int32))), .val (.int (((p2.toUInt32 >>> ((16 : Int32) &&& 31).toUInt32).toInt32) &&& (255 : Int32))), .val (.ref b1), .unset, .unset, .unset, .unset, .unset] [(.ref b5)]) _
  refine own_go (fun t_ k_ => XS.dup X5.here hx rfl (hb hby at_76) rfl rfl k_) ?_
  show own_G p.tables e below T5 (mkF m 77 #[.val (.int p1), .val (.int p2), .val (.int (p1 &&& (255 : Int32))), .val (.int (((p1.toUInt32 >>> ((8 : Int32) &&& 31).toUInt32).toInt32) &&& (255 : Int32))), .val (.int (((p1.toUInt32 >>> ((16 : Int32) &&& 31).toUInt32).toInt32) &&& (255 : Int32))), .val (.int (p2 &&& (255 : Int32))), .val (.int (((p2.toUInt32 >>> ((8 : Int32) &&& 31).toUInt32).toInt32) &&& (255 : Int32))), .val (.int (((p2.toUInt32 >>> ((16 : Int32) &&& 31).toUInt32).toInt32) &&& (255 : Int32))), .val (.ref b1), .unset, .unset, .unset, .unset, .unset] [(.ref b5), (.ref b5)]) _
  refine own_go (fun t_ k_ => XS.iconst X5.here hx rfl (hb hby at_77) k_) ?_
  show own_G p.tables e below T5 (mkF m 78 #[.val (.int p1), .val (.int p2), .val (.int (p1 &&& (255 : Int32))), .val (.int (((p1.toUInt32 >>> ((8 : Int32) &&& 31).toUInt32).toInt32) &&& (255 : Int32))), .val (.int (((p1.toUInt32 >>> ((16 : Int32) &&& 31).toUInt32).toInt32) &&& (255 : Int32))), .val (.int (p2 &&& (255 : Int32))), .val (.int (((p2.toUInt32 >>> ((8 : Int32) &&& 31).toUInt32).toInt32) &&& (255 : Int32))), .val (.int (((p2.toUInt32 >>> ((16 : Int32) &&& 31).toUInt32).toInt32) &&& (255 : Int32))), .val (.ref b1), .unset, .unset, .unset, .unset, .unset] [(.int (0 : Int32)), (.ref b5), (.ref b5)]) _
  refine own_go (fun t_ k_ => XS.iloadN X5.here hx rfl (hb hby at_78) rfl k_) ?_
  show own_G p.tables e below T5 (mkF m 79 #[.val (.int p1), .val (.int p2), .val (.int (p1 &&& (255 : Int32))), .val (.int (((p1.toUInt32 >>> ((8 : Int32) &&& 31).toUInt32).toInt32) &&& (255 : Int32))), .val (.int (((p1.toUInt32 >>> ((16 : Int32) &&& 31).toUInt32).toInt32) &&& (255 : Int32))), .val (.int (p2 &&& (255 : Int32))), .val (.int (((p2.toUInt32 >>> ((8 : Int32) &&& 31).toUInt32).toInt32) &&& (255 : Int32))), .val (.int (((p2.toUInt32 >>> ((16 : Int32) &&& 31).toUInt32).toInt32) &&& (255 : Int32))), .val (.ref b1), .unset, .unset, .unset, .unset, .unset] [(.int (p1 &&& (255 : Int32))), (.int (0 : Int32)), (.ref b5), (.ref b5)]) _
  obtain ⟨cl10, Ar10, q10, S10, M10, H10, G10⟩ := id V5
  have hin10 : ¬ ((0 : Int32) < 0 ∨ cl10.slots.size ≤ ((0 : Int32)).toNatClampNeg) := inb_of S10 ⟨by decide, by decide⟩
  obtain ⟨T10, h10, X10, e10, W10, st10⟩ := stC X5 hx hZ e5 Ar10 (j := (0 : Int32)) hin10 (g := (mkF m 79 #[.val (.int p1), .val (.int p2), .val (.int (p1 &&& (255 : Int32))), .val (.int (((p1.toUInt32 >>> ((8 : Int32) &&& 31).toUInt32).toInt32) &&& (255 : Int32))), .val (.int (((p1.toUInt32 >>> ((16 : Int32) &&& 31).toUInt32).toInt32) &&& (255 : Int32))), .val (.int (p2 &&& (255 : Int32))), .val (.int (((p2.toUInt32 >>> ((8 : Int32) &&& 31).toUInt32).toInt32) &&& (255 : Int32))), .val (.int (((p2.toUInt32 >>> ((16 : Int32) &&& 31).toUInt32).toInt32) &&& (255 : Int32))), .val (.ref b1), .unset, .unset, .unset, .unset, .unset] [(.int (p1 &&& (255 : Int32))), (.int (0 : Int32)), (.ref b5), (.ref b5)])) rfl rfl (hb hby at_79)
  have N10 := Fr.snoc X10 N4 ge_b5
  have V10 : Arv Z h10 b5 k5 .char (3 : Int32) [(.int (p1 &&& (255 : Int32))), (.int (0 : Int32)), (.int (0 : Int32))] (.int (0 : Int32)) := by
    have q := Arv.set Ar10 q10 S10 M10 H10 G10 (fits_nar_char _) W10 0 rfl (Nat.le_of_ble_eq_true rfl)
    rw [show nar .char (p1 &&& (255 : Int32)) = (p1 &&& (255 : Int32)) from i2c_mask _] at q
    exact q
  refine own_go st10 ?_
  show own_G p.tables e below T10 (mkF m 80 #[.val (.int p1), .val (.int p2), .val (.int (p1 &&& (255 : Int32))), .val (.int (((p1.toUInt32 >>> ((8 : Int32) &&& 31).toUInt32).toInt32) &&& (255 : Int32))), .val (.int (((p1.toUInt32 >>> ((16 : Int32) &&& 31).toUInt32).toInt32) &&& (255 : Int32))), .val (.int (p2 &&& (255 : Int32))), .val (.int (((p2.toUInt32 >>> ((8 : Int32) &&& 31).toUInt32).toInt32) &&& (255 : Int32))), .val (.int (((p2.toUInt32 >>> ((16 : Int32) &&& 31).toUInt32).toInt32) &&& (255 : Int32))), .val (.ref b1), .unset, .unset, .unset, .unset, .unset] [(.ref b5)]) _
  refine own_go (fun t_ k_ => XS.dup X10.here hx rfl (hb hby at_80) rfl rfl k_) ?_
  show own_G p.tables e below T10 (mkF m 81 #[.val (.int p1), .val (.int p2), .val (.int (p1 &&& (255 : Int32))), .val (.int (((p1.toUInt32 >>> ((8 : Int32) &&& 31).toUInt32).toInt32) &&& (255 : Int32))), .val (.int (((p1.toUInt32 >>> ((16 : Int32) &&& 31).toUInt32).toInt32) &&& (255 : Int32))), .val (.int (p2 &&& (255 : Int32))), .val (.int (((p2.toUInt32 >>> ((8 : Int32) &&& 31).toUInt32).toInt32) &&& (255 : Int32))), .val (.int (((p2.toUInt32 >>> ((16 : Int32) &&& 31).toUInt32).toInt32) &&& (255 : Int32))), .val (.ref b1), .unset, .unset, .unset, .unset, .unset] [(.ref b5), (.ref b5)]) _
  refine own_go (fun t_ k_ => XS.iconst X10.here hx rfl (hb hby at_81) k_) ?_
  show own_G p.tables e below T10 (mkF m 82 #[.val (.int p1), .val (.int p2), .val (.int (p1 &&& (255 : Int32))), .val (.int (((p1.toUInt32 >>> ((8 : Int32) &&& 31).toUInt32).toInt32) &&& (255 : Int32))), .val (.int (((p1.toUInt32 >>> ((16 : Int32) &&& 31).toUInt32).toInt32) &&& (255 : Int32))), .val (.int (p2 &&& (255 : Int32))), .val (.int (((p2.toUInt32 >>> ((8 : Int32) &&& 31).toUInt32).toInt32) &&& (255 : Int32))), .val (.int (((p2.toUInt32 >>> ((16 : Int32) &&& 31).toUInt32).toInt32) &&& (255 : Int32))), .val (.ref b1), .unset, .unset, .unset, .unset, .unset] [(.int (1 : Int32)), (.ref b5), (.ref b5)]) _
  refine own_go (fun t_ k_ => XS.iloadN X10.here hx rfl (hb hby at_82) rfl k_) ?_
  show own_G p.tables e below T10 (mkF m 83 #[.val (.int p1), .val (.int p2), .val (.int (p1 &&& (255 : Int32))), .val (.int (((p1.toUInt32 >>> ((8 : Int32) &&& 31).toUInt32).toInt32) &&& (255 : Int32))), .val (.int (((p1.toUInt32 >>> ((16 : Int32) &&& 31).toUInt32).toInt32) &&& (255 : Int32))), .val (.int (p2 &&& (255 : Int32))), .val (.int (((p2.toUInt32 >>> ((8 : Int32) &&& 31).toUInt32).toInt32) &&& (255 : Int32))), .val (.int (((p2.toUInt32 >>> ((16 : Int32) &&& 31).toUInt32).toInt32) &&& (255 : Int32))), .val (.ref b1), .unset, .unset, .unset, .unset, .unset] [(.int (((p1.toUInt32 >>> ((8 : Int32) &&& 31).toUInt32).toInt32) &&& (255 : Int32))), (.int (1 : Int32)), (.ref b5), (.ref b5)]) _
  obtain ⟨cl11, Ar11, q11, S11, M11, H11, G11⟩ := id V10
  have hin11 : ¬ ((1 : Int32) < 0 ∨ cl11.slots.size ≤ ((1 : Int32)).toNatClampNeg) := inb_of S11 ⟨by decide, by decide⟩
  obtain ⟨T11, h11, X11, e11, W11, st11⟩ := stC X10 hx hZ e10 Ar11 (j := (1 : Int32)) hin11 (g := (mkF m 83 #[.val (.int p1), .val (.int p2), .val (.int (p1 &&& (255 : Int32))), .val (.int (((p1.toUInt32 >>> ((8 : Int32) &&& 31).toUInt32).toInt32) &&& (255 : Int32))), .val (.int (((p1.toUInt32 >>> ((16 : Int32) &&& 31).toUInt32).toInt32) &&& (255 : Int32))), .val (.int (p2 &&& (255 : Int32))), .val (.int (((p2.toUInt32 >>> ((8 : Int32) &&& 31).toUInt32).toInt32) &&& (255 : Int32))), .val (.int (((p2.toUInt32 >>> ((16 : Int32) &&& 31).toUInt32).toInt32) &&& (255 : Int32))), .val (.ref b1), .unset, .unset, .unset, .unset, .unset] [(.int (((p1.toUInt32 >>> ((8 : Int32) &&& 31).toUInt32).toInt32) &&& (255 : Int32))), (.int (1 : Int32)), (.ref b5), (.ref b5)])) rfl rfl (hb hby at_83)
  have N11 := Fr.snoc X11 N10 ge_b5
  have V11 : Arv Z h11 b5 k5 .char (3 : Int32) [(.int (p1 &&& (255 : Int32))), (.int (((p1.toUInt32 >>> ((8 : Int32) &&& 31).toUInt32).toInt32) &&& (255 : Int32))), (.int (0 : Int32))] (.int (0 : Int32)) := by
    have q := Arv.set Ar11 q11 S11 M11 H11 G11 (fits_nar_char _) W11 1 rfl (Nat.le_of_ble_eq_true rfl)
    rw [show nar .char (((p1.toUInt32 >>> ((8 : Int32) &&& 31).toUInt32).toInt32) &&& (255 : Int32)) = (((p1.toUInt32 >>> ((8 : Int32) &&& 31).toUInt32).toInt32) &&& (255 : Int32)) from i2c_mask _] at q
    exact q
  refine own_go st11 ?_
  show own_G p.tables e below T11 (mkF m 84 #[.val (.int p1), .val (.int p2), .val (.int (p1 &&& (255 : Int32))), .val (.int (((p1.toUInt32 >>> ((8 : Int32) &&& 31).toUInt32).toInt32) &&& (255 : Int32))), .val (.int (((p1.toUInt32 >>> ((16 : Int32) &&& 31).toUInt32).toInt32) &&& (255 : Int32))), .val (.int (p2 &&& (255 : Int32))), .val (.int (((p2.toUInt32 >>> ((8 : Int32) &&& 31).toUInt32).toInt32) &&& (255 : Int32))), .val (.int (((p2.toUInt32 >>> ((16 : Int32) &&& 31).toUInt32).toInt32) &&& (255 : Int32))), .val (.ref b1), .unset, .unset, .unset, .unset, .unset] [(.ref b5)]) _
  refine own_go (fun t_ k_ => XS.dup X11.here hx rfl (hb hby at_84) rfl rfl k_) ?_
  show own_G p.tables e below T11 (mkF m 85 #[.val (.int p1), .val (.int p2), .val (.int (p1 &&& (255 : Int32))), .val (.int (((p1.toUInt32 >>> ((8 : Int32) &&& 31).toUInt32).toInt32) &&& (255 : Int32))), .val (.int (((p1.toUInt32 >>> ((16 : Int32) &&& 31).toUInt32).toInt32) &&& (255 : Int32))), .val (.int (p2 &&& (255 : Int32))), .val (.int (((p2.toUInt32 >>> ((8 : Int32) &&& 31).toUInt32).toInt32) &&& (255 : Int32))), .val (.int (((p2.toUInt32 >>> ((16 : Int32) &&& 31).toUInt32).toInt32) &&& (255 : Int32))), .val (.ref b1), .unset, .unset, .unset, .unset, .unset] [(.ref b5), (.ref b5)]) _
  refine own_go (fun t_ k_ => XS.iconst X11.here hx rfl (hb hby at_85) k_) ?_
  show own_G p.tables e below T11 (mkF m 86 #[.val (.int p1), .val (.int p2), .val (.int (p1 &&& (255 : Int32))), .val (.int (((p1.toUInt32 >>> ((8 : Int32) &&& 31).toUInt32).toInt32) &&& (255 : Int32))), .val (.int (((p1.toUInt32 >>> ((16 : Int32) &&& 31).toUInt32).toInt32) &&& (255 : Int32))), .val (.int (p2 &&& (255 : Int32))), .val (.int (((p2.toUInt32 >>> ((8 : Int32) &&& 31).toUInt32).toInt32) &&& (255 : Int32))), .val (.int (((p2.toUInt32 >>> ((16 : Int32) &&& 31).toUInt32).toInt32) &&& (255 : Int32))), .val (.ref b1), .unset, .unset, .unset, .unset, .unset] [(.int (2 : Int32)), (.ref b5), (.ref b5)]) _
  refine own_go (fun t_ k_ => XS.iload X11.here hx rfl (hb hby at_86) rfl k_) ?_
  show own_G p.tables e below T11 (mkF m 88 #[.val (.int p1), .val (.int p2), .val (.int (p1 &&& (255 : Int32))), .val (.int (((p1.toUInt32 >>> ((8 : Int32) &&& 31).toUInt32).toInt32) &&& (255 : Int32))), .val (.int (((p1.toUInt32 >>> ((16 : Int32) &&& 31).toUInt32).toInt32) &&& (255 : Int32))), .val (.int (p2 &&& (255 : Int32))), .val (.int (((p2.toUInt32 >>> ((8 : Int32) &&& 31).toUInt32).toInt32) &&& (255 : Int32))), .val (.int (((p2.toUInt32 >>> ((16 : Int32) &&& 31).toUInt32).toInt32) &&& (255 : Int32))), .val (.ref b1), .unset, .unset, .unset, .unset, .unset] [(.int (((p1.toUInt32 >>> ((16 : Int32) &&& 31).toUInt32).toInt32) &&& (255 : Int32))), (.int (2 : Int32)), (.ref b5), (.ref b5)]) _
  obtain ⟨cl12, Ar12, q12, S12, M12, H12, G12⟩ := id V11
  have hin12 : ¬ ((2 : Int32) < 0 ∨ cl12.slots.size ≤ ((2 : Int32)).toNatClampNeg) := inb_of S12 ⟨by decide, by decide⟩
  obtain ⟨T12, h12, X12, e12, W12, st12⟩ := stC X11 hx hZ e11 Ar12 (j := (2 : Int32)) hin12 (g := (mkF m 88 #[.val (.int p1), .val (.int p2), .val (.int (p1 &&& (255 : Int32))), .val (.int (((p1.toUInt32 >>> ((8 : Int32) &&& 31).toUInt32).toInt32) &&& (255 : Int32))), .val (.int (((p1.toUInt32 >>> ((16 : Int32) &&& 31).toUInt32).toInt32) &&& (255 : Int32))), .val (.int (p2 &&& (255 : Int32))), .val (.int (((p2.toUInt32 >>> ((8 : Int32) &&& 31).toUInt32).toInt32) &&& (255 : Int32))), .val (.int (((p2.toUInt32 >>> ((16 : Int32) &&& 31).toUInt32).toInt32) &&& (255 : Int32))), .val (.ref b1), .unset, .unset, .unset, .unset, .unset] [(.int (((p1.toUInt32 >>> ((16 : Int32) &&& 31).toUInt32).toInt32) &&& (255 : Int32))), (.int (2 : Int32)), (.ref b5), (.ref b5)])) rfl rfl (hb hby at_88)
  have N12 := Fr.snoc X12 N11 ge_b5
  have V12 : Arv Z h12 b5 k5 .char (3 : Int32) [(.int (p1 &&& (255 : Int32))), (.int (((p1.toUInt32 >>> ((8 : Int32) &&& 31).toUInt32).toInt32) &&& (255 : Int32))), (.int (((p1.toUInt32 >>> ((16 : Int32) &&& 31).toUInt32).toInt32) &&& (255 : Int32)))] (.int (0 : Int32)) := by
    have q := Arv.set Ar12 q12 S12 M12 H12 G12 (fits_nar_char _) W12 2 rfl (Nat.le_of_ble_eq_true rfl)
    rw [show nar .char (((p1.toUInt32 >>> ((16 : Int32) &&& 31).toUInt32).toInt32) &&& (255 : Int32)) = (((p1.toUInt32 >>> ((16 : Int32) &&& 31).toUInt32).toInt32) &&& (255 : Int32)) from i2c_mask _] at q
    exact q
  refine own_go st12 ?_
  show own_G p.tables e below T12 (mkF m 89 #[.val (.int p1), .val (.int p2), .val (.int (p1 &&& (255 : Int32))), .val (.int (((p1.toUInt32 >>> ((8 : Int32) &&& 31).toUInt32).toInt32) &&& (255 : Int32))), .val (.int (((p1.toUInt32 >>> ((16 : Int32) &&& 31).toUInt32).toInt32) &&& (255 : Int32))), .val (.int (p2 &&& (255 : Int32))), .val (.int (((p2.toUInt32 >>> ((8 : Int32) &&& 31).toUInt32).toInt32) &&& (255 : Int32))), .val (.int (((p2.toUInt32 >>> ((16 : Int32) &&& 31).toUInt32).toInt32) &&& (255 : Int32))), .val (.ref b1), .unset, .unset, .unset, .unset, .unset] [(.ref b5)]) _
  refine own_go (fun t_ k_ => XS.astore X12.here hx rfl (hb hby at_89) rfl rfl (l' := #[.val (.int p1), .val (.int p2), .val (.int (p1 &&& (255 : Int32))), .val (.int (((p1.toUInt32 >>> ((8 : Int32) &&& 31).toUInt32).toInt32) &&& (255 : Int32))), .val (.int (((p1.toUInt32 >>> ((16 : Int32) &&& 31).toUInt32).toInt32) &&& (255 : Int32))), .val (.int (p2 &&& (255 : Int32))), .val (.int (((p2.toUInt32 >>> ((8 : Int32) &&& 31).toUInt32).toInt32) &&& (255 : Int32))), .val (.int (((p2.toUInt32 >>> ((16 : Int32) &&& 31).toUInt32).toInt32) &&& (255 : Int32))), .val (.ref b1), .val (.ref b5), .unset, .unset, .unset, .unset]) rfl k_) ?_
  show own_G p.tables e below T12 (mkF m 91 #[.val (.int p1), .val (.int p2), .val (.int (p1 &&& (255 : Int32))), .val (.int (((p1.toUInt32 >>> ((8 : Int32) &&& 31).toUInt32).toInt32) &&& (255 : Int32))), .val (.int (((p1.toUInt32 >>> ((16 : Int32) &&& 31).toUInt32).toInt32) &&& (255 : Int32))), .val (.int (p2 &&& (255 : Int32))), .val (.int (((p2.toUInt32 >>> ((8 : Int32) &&& 31).toUInt32).toInt32) &&& (255 : Int32))), .val (.int (((p2.toUInt32 >>> ((16 : Int32) &&& 31).toUInt32).toInt32) &&& (255 : Int32))), .val (.ref b1), .val (.ref b5), .unset, .unset, .unset, .unset] []) _
  refine own_go (fun t_ k_ => XS.iconst X12.here hx rfl (hb hby at_91) k_) ?_
  show own_G p.tables e below T12 (mkF m 92 #[.val (.int p1), .val (.int p2), .val (.int (p1 &&& (255 : Int32))), .val (.int (((p1.toUInt32 >>> ((8 : Int32) &&& 31).toUInt32).toInt32) &&& (255 : Int32))), .val (.int (((p1.toUInt32 >>> ((16 : Int32) &&& 31).toUInt32).toInt32) &&& (255 : Int32))), .val (.int (p2 &&& (255 : Int32))), .val (.int (((p2.toUInt32 >>> ((8 : Int32) &&& 31).toUInt32).toInt32) &&& (255 : Int32))), .val (.int (((p2.toUInt32 >>> ((16 : Int32) &&& 31).toUInt32).toInt32) &&& (255 : Int32))), .val (.ref b1), .val (.ref b5), .unset, .unset, .unset, .unset] [(.int (1 : Int32))]) _
  obtain ⟨T13, h13, k13, X13, e13, E13, A13, st13⟩ := newP X12 hx hZ (hw _ (List.mem_of_getElem? (i := 0) rfl)) e12 (g := (mkF m 92 #[.val (.int p1), .val (.int p2), .val (.int (p1 &&& (255 : Int32))), .val (.int (((p1.toUInt32 >>> ((8 : Int32) &&& 31).toUInt32).toInt32) &&& (255 : Int32))), .val (.int (((p1.toUInt32 >>> ((16 : Int32) &&& 31).toUInt32).toInt32) &&& (255 : Int32))), .val (.int (p2 &&& (255 : Int32))), .val (.int (((p2.toUInt32 >>> ((8 : Int32) &&& 31).toUInt32).toInt32) &&& (255 : Int32))), .val (.int (((p2.toUInt32 >>> ((16 : Int32) &&& 31).toUInt32).toInt32) &&& (255 : Int32))), .val (.ref b1), .val (.ref b5), .unset, .unset, .unset, .unset] [(.int (1 : Int32))])) rfl (hb hby at_92) rfl (by decide) (cap := 1) (by decide) (by decide) (by decide) (by decide)
  obtain ⟨b13, g13⟩ : ∃ z, z = h12.size := ⟨_, rfl⟩
  rw [← g13] at A13 st13
  have f14 : Arr Z h12 aP clP .boolean := ((((f6.ext E5).other W10 ne7).other W11 ne7).other W12 ne7)
  have ne15 : aP ≠ b13 := Nat.ne_of_lt (Nat.lt_of_lt_of_le f14.lt (Nat.le_of_eq g13.symm))
  have f16 : Arv Z h12 b1 k1 .char (2 : Int32) [(.int (p2 &&& (255 : Int32))), (.int (((p2.toUInt32 >>> ((8 : Int32) &&& 31).toUInt32).toInt32) &&& (255 : Int32)))] (.int (0 : Int32)) := ((((V4.ext E5).other W10 ne8).other W11 ne8).other W12 ne8)
  have ne17 : b1 ≠ b13 := Nat.ne_of_lt (Nat.lt_of_lt_of_le f16.lt (Nat.le_of_eq g13.symm))
  have ne18 : b5 ≠ b13 := Nat.ne_of_lt (Nat.lt_of_lt_of_le V12.lt (Nat.le_of_eq g13.symm))
  have f19 : n0 ≤ h12.size := (Nat.le_trans (Nat.le_trans (Nat.le_trans (Nat.le_trans f9 E5.1) (Keep.of_wr W10).1) (Keep.of_wr W11).1) (Keep.of_wr W12).1)
  have ge_b13 : n0 ≤ b13 := Nat.le_trans f19 (Nat.le_of_eq g13.symm)
  have V13 : Arv Z h13 b13 k13 .char (1 : Int32) [(.int (0 : Int32))] (.int (0 : Int32)) := (Arv.new A13 (by decide)).pad (pad_rep [] (.int (0 : Int32)) 1)
  refine own_go st13 ?_
  show own_G p.tables e below T13 (mkF m 94 #[.val (.int p1), .val (.int p2), .val (.int (p1 &&& (255 : Int32))), .val (.int (((p1.toUInt32 >>> ((8 : Int32) &&& 31).toUInt32).toInt32) &&& (255 : Int32))), .val (.int (((p1.toUInt32 >>> ((16 : Int32) &&& 31).toUInt32).toInt32) &&& (255 : Int32))), .val (.int (p2 &&& (255 : Int32))), .val (.int (((p2.toUInt32 >>> ((8 : Int32) &&& 31).toUInt32).toInt32) &&& (255 : Int32))), .val (.int (((p2.toUInt32 >>> ((16 : Int32) &&& 31).toUInt32).toInt32) &&& (255 : Int32))), .val (.ref b1), .val (.ref b5), .unset, .unset, .unset, .unset] [(.ref b13)]) _
  refine own_go (fun t_ k_ => XS.dup X13.here hx rfl (hb hby at_94) rfl rfl k_) ?_
  show own_G p.tables e below T13 (mkF m 95 #[.val (.int p1), .val (.int p2), .val (.int (p1 &&& (255 : Int32))), .val (.int (((p1.toUInt32 >>> ((8 : Int32) &&& 31).toUInt32).toInt32) &&& (255 : Int32))), .val (.int (((p1.toUInt32 >>> ((16 : Int32) &&& 31).toUInt32).toInt32) &&& (255 : Int32))), .val (.int (p2 &&& (255 : Int32))), .val (.int (((p2.toUInt32 >>> ((8 : Int32) &&& 31).toUInt32).toInt32) &&& (255 : Int32))), .val (.int (((p2.toUInt32 >>> ((16 : Int32) &&& 31).toUInt32).toInt32) &&& (255 : Int32))), .val (.ref b1), .val (.ref b5), .unset, .unset, .unset, .unset] [(.ref b13), (.ref b13)]) _
  refine own_go (fun t_ k_ => XS.iconst X13.here hx rfl (hb hby at_95) k_) ?_
  show own_G p.tables e below T13 (mkF m 96 #[.val (.int p1), .val (.int p2), .val (.int (p1 &&& (255 : Int32))), .val (.int (((p1.toUInt32 >>> ((8 : Int32) &&& 31).toUInt32).toInt32) &&& (255 : Int32))), .val (.int (((p1.toUInt32 >>> ((16 : Int32) &&& 31).toUInt32).toInt32) &&& (255 : Int32))), .val (.int (p2 &&& (255 : Int32))), .val (.int (((p2.toUInt32 >>> ((8 : Int32) &&& 31).toUInt32).toInt32) &&& (255 : Int32))), .val (.int (((p2.toUInt32 >>> ((16 : Int32) &&& 31).toUInt32).toInt32) &&& (255 : Int32))), .val (.ref b1), .val (.ref b5), .unset, .unset, .unset, .unset] [(.int (0 : Int32)), (.ref b13), (.ref b13)]) _
  refine own_go (fun t_ k_ => XS.iload X13.here hx rfl (hb hby at_96) rfl k_) ?_
  show own_G p.tables e below T13 (mkF m 98 #[.val (.int p1), .val (.int p2), .val (.int (p1 &&& (255 : Int32))), .val (.int (((p1.toUInt32 >>> ((8 : Int32) &&& 31).toUInt32).toInt32) &&& (255 : Int32))), .val (.int (((p1.toUInt32 >>> ((16 : Int32) &&& 31).toUInt32).toInt32) &&& (255 : Int32))), .val (.int (p2 &&& (255 : Int32))), .val (.int (((p2.toUInt32 >>> ((8 : Int32) &&& 31).toUInt32).toInt32) &&& (255 : Int32))), .val (.int (((p2.toUInt32 >>> ((16 : Int32) &&& 31).toUInt32).toInt32) &&& (255 : Int32))), .val (.ref b1), .val (.ref b5), .unset, .unset, .unset, .unset] [(.int (((p2.toUInt32 >>> ((16 : Int32) &&& 31).toUInt32).toInt32) &&& (255 : Int32))), (.int (0 : Int32)), (.ref b13), (.ref b13)]) _
  obtain ⟨cl20, Ar20, q20, S20, M20, H20, G20⟩ := id V13
  have hin20 : ¬ ((0 : Int32) < 0 ∨ cl20.slots.size ≤ ((0 : Int32)).toNatClampNeg) := inb_of S20 ⟨by decide, by decide⟩
  obtain ⟨T20, h20, X20, e20, W20, st20⟩ := stC X13 hx hZ e13 Ar20 (j := (0 : Int32)) hin20 (g := (mkF m 98 #[.val (.int p1), .val (.int p2), .val (.int (p1 &&& (255 : Int32))), .val (.int (((p1.toUInt32 >>> ((8 : Int32) &&& 31).toUInt32).toInt32) &&& (255 : Int32))), .val (.int (((p1.toUInt32 >>> ((16 : Int32) &&& 31).toUInt32).toInt32) &&& (255 : Int32))), .val (.int (p2 &&& (255 : Int32))), .val (.int (((p2.toUInt32 >>> ((8 : Int32) &&& 31).toUInt32).toInt32) &&& (255 : Int32))), .val (.int (((p2.toUInt32 >>> ((16 : Int32) &&& 31).toUInt32).toInt32) &&& (255 : Int32))), .val (.ref b1), .val (.ref b5), .unset, .unset, .unset, .unset] [(.int (((p2.toUInt32 >>> ((16 : Int32) &&& 31).toUInt32).toInt32) &&& (255 : Int32))), (.int (0 : Int32)), (.ref b13), (.ref b13)])) rfl rfl (hb hby at_98)
  have N20 := Fr.snoc X20 N12 ge_b13
  have V20 : Arv Z h20 b13 k13 .char (1 : Int32) [(.int (((p2.toUInt32 >>> ((16 : Int32) &&& 31).toUInt32).toInt32) &&& (255 : Int32)))] (.int (0 : Int32)) := by
    have q := Arv.set Ar20 q20 S20 M20 H20 G20 (fits_nar_char _) W20 0 rfl (Nat.le_of_ble_eq_true rfl)
    rw [show nar .char (((p2.toUInt32 >>> ((16 : Int32) &&& 31).toUInt32).toInt32) &&& (255 : Int32)) = (((p2.toUInt32 >>> ((16 : Int32) &&& 31).toUInt32).toInt32) &&& (255 : Int32)) from i2c_mask _] at q
    exact q
  refine own_go st20 ?_
  show own_G p.tables e below T20 (mkF m 99 #[.val (.int p1), .val (.int p2), .val (.int (p1 &&& (255 : Int32))), .val (.int (((p1.toUInt32 >>> ((8 : Int32) &&& 31).toUInt32).toInt32) &&& (255 : Int32))), .val (.int (((p1.toUInt32 >>> ((16 : Int32) &&& 31).toUInt32).toInt32) &&& (255 : Int32))), .val (.int (p2 &&& (255 : Int32))), .val (.int (((p2.toUInt32 >>> ((8 : Int32) &&& 31).toUInt32).toInt32) &&& (255 : Int32))), .val (.int (((p2.toUInt32 >>> ((16 : Int32) &&& 31).toUInt32).toInt32) &&& (255 : Int32))), .val (.ref b1), .val (.ref b5), .unset, .unset, .unset, .unset] [(.ref b13)]) _
  refine own_go (fun t_ k_ => XS.astore X20.here hx rfl (hb hby at_99) rfl rfl (l' := #[.val (.int p1), .val (.int p2), .val (.int (p1 &&& (255 : Int32))), .val (.int (((p1.toUInt32 >>> ((8 : Int32) &&& 31).toUInt32).toInt32) &&& (255 : Int32))), .val (.int (((p1.toUInt32 >>> ((16 : Int32) &&& 31).toUInt32).toInt32) &&& (255 : Int32))), .val (.int (p2 &&& (255 : Int32))), .val (.int (((p2.toUInt32 >>> ((8 : Int32) &&& 31).toUInt32).toInt32) &&& (255 : Int32))), .val (.int (((p2.toUInt32 >>> ((16 : Int32) &&& 31).toUInt32).toInt32) &&& (255 : Int32))), .val (.ref b1), .val (.ref b5), .val (.ref b13), .unset, .unset, .unset]) rfl k_) ?_
  show own_G p.tables e below T20 (mkF m 101 #[.val (.int p1), .val (.int p2), .val (.int (p1 &&& (255 : Int32))), .val (.int (((p1.toUInt32 >>> ((8 : Int32) &&& 31).toUInt32).toInt32) &&& (255 : Int32))), .val (.int (((p1.toUInt32 >>> ((16 : Int32) &&& 31).toUInt32).toInt32) &&& (255 : Int32))), .val (.int (p2 &&& (255 : Int32))), .val (.int (((p2.toUInt32 >>> ((8 : Int32) &&& 31).toUInt32).toInt32) &&& (255 : Int32))), .val (.int (((p2.toUInt32 >>> ((16 : Int32) &&& 31).toUInt32).toInt32) &&& (255 : Int32))), .val (.ref b1), .val (.ref b5), .val (.ref b13), .unset, .unset, .unset] []) _
  obtain ⟨T21, h21, X21, e21, E21, A21, D21, -, st21⟩ := newO X20 hx hZ hown (hw _ (List.mem_of_getElem? (i := 1) rfl)) (hw _ (List.mem_of_getElem? (i := 2) rfl)) (hw _ (List.mem_of_getElem? (i := 3) rfl)) e20 (g := (mkF m 101 #[.val (.int p1), .val (.int p2), .val (.int (p1 &&& (255 : Int32))), .val (.int (((p1.toUInt32 >>> ((8 : Int32) &&& 31).toUInt32).toInt32) &&& (255 : Int32))), .val (.int (((p1.toUInt32 >>> ((16 : Int32) &&& 31).toUInt32).toInt32) &&& (255 : Int32))), .val (.int (p2 &&& (255 : Int32))), .val (.int (((p2.toUInt32 >>> ((8 : Int32) &&& 31).toUInt32).toInt32) &&& (255 : Int32))), .val (.int (((p2.toUInt32 >>> ((16 : Int32) &&& 31).toUInt32).toInt32) &&& (255 : Int32))), .val (.ref b1), .val (.ref b5), .val (.ref b13), .unset, .unset, .unset] [])) rfl (hb hby at_101) (by decide) (by decide)
  obtain ⟨b21, g21⟩ : ∃ z, z = h20.size := ⟨_, rfl⟩
  rw [← g21] at A21 D21 st21
  have f22 : Arr Z h20 aP clP .boolean := ((f14.ext E13).other W20 ne15)
  have ne23 : aP ≠ b21 := Nat.ne_of_lt (Nat.lt_of_lt_of_le f22.lt (Nat.le_of_eq g21.symm))
  have f24 : Arv Z h20 b1 k1 .char (2 : Int32) [(.int (p2 &&& (255 : Int32))), (.int (((p2.toUInt32 >>> ((8 : Int32) &&& 31).toUInt32).toInt32) &&& (255 : Int32)))] (.int (0 : Int32)) := ((f16.ext E13).other W20 ne17)
  have ne25 : b1 ≠ b21 := Nat.ne_of_lt (Nat.lt_of_lt_of_le f24.lt (Nat.le_of_eq g21.symm))
  have f26 : Arv Z h20 b5 k5 .char (3 : Int32) [(.int (p1 &&& (255 : Int32))), (.int (((p1.toUInt32 >>> ((8 : Int32) &&& 31).toUInt32).toInt32) &&& (255 : Int32))), (.int (((p1.toUInt32 >>> ((16 : Int32) &&& 31).toUInt32).toInt32) &&& (255 : Int32)))] (.int (0 : Int32)) := ((V12.ext E13).other W20 ne18)
  have ne27 : b5 ≠ b21 := Nat.ne_of_lt (Nat.lt_of_lt_of_le f26.lt (Nat.le_of_eq g21.symm))
  have ne28 : b13 ≠ b21 := Nat.ne_of_lt (Nat.lt_of_lt_of_le V20.lt (Nat.le_of_eq g21.symm))
  have f29 : n0 ≤ h20.size := (Nat.le_trans (Nat.le_trans f19 E13.1) (Keep.of_wr W20).1)
  have ge_b21 : n0 ≤ b21 := Nat.le_trans f29 (Nat.le_of_eq g21.symm)
  have f30 : Fld Z h21 b21 "com/example/einzug/einzug/core/TextCharacters" "refused" "[I" .null := D21 (Or.inl (hw _ (List.mem_of_getElem? (i := 12) rfl))) (ty := (.array .int)) (by decide)
  have f31 : Fld Z h21 b21 "com/example/einzug/einzug/core/TextCharacters" "started" "[Z" .null := D21 (Or.inl (hw _ (List.mem_of_getElem? (i := 15) rfl))) (ty := (.array .boolean)) (by decide)
  have f32 : Fld Z h21 b21 "com/example/einzug/einzug/core/TextCharacters" "pending" "[I" .null := D21 (Or.inl (hw _ (List.mem_of_getElem? (i := 17) rfl))) (ty := (.array .int)) (by decide)
  have f33 : Fld Z h21 b21 "com/example/einzug/einzug/core/TextCharacters" "depth" "I" (.int (0 : Int32)) := D21 (Or.inl (hw _ (List.mem_of_getElem? (i := 24) rfl))) (ty := .int) (by decide)
  refine own_go st21 ?_
  show own_G p.tables e below T21 (mkF m 104 #[.val (.int p1), .val (.int p2), .val (.int (p1 &&& (255 : Int32))), .val (.int (((p1.toUInt32 >>> ((8 : Int32) &&& 31).toUInt32).toInt32) &&& (255 : Int32))), .val (.int (((p1.toUInt32 >>> ((16 : Int32) &&& 31).toUInt32).toInt32) &&& (255 : Int32))), .val (.int (p2 &&& (255 : Int32))), .val (.int (((p2.toUInt32 >>> ((8 : Int32) &&& 31).toUInt32).toInt32) &&& (255 : Int32))), .val (.int (((p2.toUInt32 >>> ((16 : Int32) &&& 31).toUInt32).toInt32) &&& (255 : Int32))), .val (.ref b1), .val (.ref b5), .val (.ref b13), .unset, .unset, .unset] [(.ref b21)]) _
  refine own_go (fun t_ k_ => XS.dup X21.here hx rfl (hb hby at_104) rfl rfl k_) ?_
  show own_G p.tables e below T21 (mkF m 105 #[.val (.int p1), .val (.int p2), .val (.int (p1 &&& (255 : Int32))), .val (.int (((p1.toUInt32 >>> ((8 : Int32) &&& 31).toUInt32).toInt32) &&& (255 : Int32))), .val (.int (((p1.toUInt32 >>> ((16 : Int32) &&& 31).toUInt32).toInt32) &&& (255 : Int32))), .val (.int (p2 &&& (255 : Int32))), .val (.int (((p2.toUInt32 >>> ((8 : Int32) &&& 31).toUInt32).toInt32) &&& (255 : Int32))), .val (.int (((p2.toUInt32 >>> ((16 : Int32) &&& 31).toUInt32).toInt32) &&& (255 : Int32))), .val (.ref b1), .val (.ref b5), .val (.ref b13), .unset, .unset, .unset] [(.ref b21), (.ref b21)]) _
  have f34 : n0 ≤ h21.size := (Nat.le_trans f29 E21.1)
  have f35 : Arr Z h21 aP clP .boolean := (f22.ext E21)
  have f36 : Arv Z h21 b1 k1 .char (2 : Int32) [(.int (p2 &&& (255 : Int32))), (.int (((p2.toUInt32 >>> ((8 : Int32) &&& 31).toUInt32).toInt32) &&& (255 : Int32)))] (.int (0 : Int32)) := (f24.ext E21)
  have f37 : Arv Z h21 b5 k5 .char (3 : Int32) [(.int (p1 &&& (255 : Int32))), (.int (((p1.toUInt32 >>> ((8 : Int32) &&& 31).toUInt32).toInt32) &&& (255 : Int32))), (.int (((p1.toUInt32 >>> ((16 : Int32) &&& 31).toUInt32).toInt32) &&& (255 : Int32)))] (.int (0 : Int32)) := (f26.ext E21)
  have f38 : Arv Z h21 b13 k13 .char (1 : Int32) [(.int (((p2.toUInt32 >>> ((16 : Int32) &&& 31).toUInt32).toInt32) &&& (255 : Int32)))] (.int (0 : Int32)) := (V20.ext E21)
  have f39 : Sta Z h21 "com/example/einzug/einzug/rules/PermittedCharacters" "PERMITTED" "[Z" (.ref aP) := ((((((((((S_P.ext E1).wr W3).wr W4).ext E5).wr W10).wr W11).wr W12).ext E13).wr W20).ext E21)
  obtain ⟨_, _, ⟨T40, L40, k40, n40⟩, -, X40, ⟨Lc40, hQ40, l40, y40, z40⟩, st40⟩ := X21.specialBack hx (y := (⟨"com/example/einzug/einzug/core/TextCharacters", "<init>", "()V"⟩ : MethodName)) rfl hown (mvT hZ (hw _ (List.mem_of_getElem? (i := 4) rfl))) (mvT hZ (hw _ (List.mem_of_getElem? (i := 5) rfl))) (mvT hZ (hw _ (List.mem_of_getElem? (i := 6) rfl))) (by decide) (backOf (W := 1) (rm1 l Z a0 hw [] b21 h21 n0 f34 ge_b21 A21 f33 f30 f31 f32) hZ (hw _ (List.mem_of_getElem? (i := 6) rfl)) (hw _ (List.mem_of_getElem? (i := 3) rfl)) (by decide) (by decide)) (g := (mkF m 105 #[.val (.int p1), .val (.int p2), .val (.int (p1 &&& (255 : Int32))), .val (.int (((p1.toUInt32 >>> ((8 : Int32) &&& 31).toUInt32).toInt32) &&& (255 : Int32))), .val (.int (((p1.toUInt32 >>> ((16 : Int32) &&& 31).toUInt32).toInt32) &&& (255 : Int32))), .val (.int (p2 &&& (255 : Int32))), .val (.int (((p2.toUInt32 >>> ((8 : Int32) &&& 31).toUInt32).toInt32) &&& (255 : Int32))), .val (.int (((p2.toUInt32 >>> ((16 : Int32) &&& 31).toUInt32).toInt32) &&& (255 : Int32))), .val (.ref b1), .val (.ref b5), .val (.ref b13), .unset, .unset, .unset] [(.ref b21), (.ref b21)])) rfl (by rw [hml]; rfl) (Steps.refl _) (a := b21) (argsL := []) (rest := [(.ref b21)]) (lenOf own_pd4 rfl) rfl (by show 2 * 0 + _ ≤ _; exact Nat.le_of_eq rfl) (hb hby at_105) (fun _ _ => ⟨rfl, e21, (by decide : 4 + 3 ≤ _), (by decide : 10 + 24 ≤ _)⟩)
  dsimp only [Pt.U, Pt.locs, Pt.cells, Pt.slots] at X40 l40 y40 z40 st40 hQ40
  subst l40 y40 z40
  obtain ⟨rfl, N40q, K40, Ex40, Fd40, aR40, aS40, aD40, kR40, kS40, kD40, zR40, zS40, zD40, gR40, gS40, gD40, nRS40, nRD40, nSD40, m1R40, m1S40, m1D40, FR40, FS40, FD40, VR40, VS40, VD40⟩ := hQ40
  have N40 := Fr.app N20 N40q
  refine own_go (fun t_ k_ => st40.trans k_) ?_
  show own_G p.tables e below T40 (mkF m 108 #[.val (.int p1), .val (.int p2), .val (.int (p1 &&& (255 : Int32))), .val (.int (((p1.toUInt32 >>> ((8 : Int32) &&& 31).toUInt32).toInt32) &&& (255 : Int32))), .val (.int (((p1.toUInt32 >>> ((16 : Int32) &&& 31).toUInt32).toInt32) &&& (255 : Int32))), .val (.int (p2 &&& (255 : Int32))), .val (.int (((p2.toUInt32 >>> ((8 : Int32) &&& 31).toUInt32).toInt32) &&& (255 : Int32))), .val (.int (((p2.toUInt32 >>> ((16 : Int32) &&& 31).toUInt32).toInt32) &&& (255 : Int32))), .val (.ref b1), .val (.ref b5), .val (.ref b13), .unset, .unset, .unset] [(.ref b21)]) _
  have ne41 : aP ≠ aR40 := Nat.ne_of_lt (Nat.lt_of_lt_of_le f35.lt zR40)
  have ne42 : b1 ≠ aR40 := Nat.ne_of_lt (Nat.lt_of_lt_of_le f36.lt zR40)
  have ne43 : b5 ≠ aR40 := Nat.ne_of_lt (Nat.lt_of_lt_of_le f37.lt zR40)
  have ne44 : b13 ≠ aR40 := Nat.ne_of_lt (Nat.lt_of_lt_of_le f38.lt zR40)
  have ne45 : aP ≠ aS40 := Nat.ne_of_lt (Nat.lt_of_lt_of_le f35.lt zS40)
  have ne46 : b1 ≠ aS40 := Nat.ne_of_lt (Nat.lt_of_lt_of_le f36.lt zS40)
  have ne47 : b5 ≠ aS40 := Nat.ne_of_lt (Nat.lt_of_lt_of_le f37.lt zS40)
  have ne48 : b13 ≠ aS40 := Nat.ne_of_lt (Nat.lt_of_lt_of_le f38.lt zS40)
  have ne49 : aP ≠ aD40 := Nat.ne_of_lt (Nat.lt_of_lt_of_le f35.lt zD40)
  have ne50 : b1 ≠ aD40 := Nat.ne_of_lt (Nat.lt_of_lt_of_le f36.lt zD40)
  have ne51 : b5 ≠ aD40 := Nat.ne_of_lt (Nat.lt_of_lt_of_le f37.lt zD40)
  have ne52 : b13 ≠ aD40 := Nat.ne_of_lt (Nat.lt_of_lt_of_le f38.lt zD40)
  refine own_go (fun t_ k_ => XS.astore X40.here hx rfl (hb hby at_108) rfl rfl (l' := #[.val (.int p1), .val (.int p2), .val (.int (p1 &&& (255 : Int32))), .val (.int (((p1.toUInt32 >>> ((8 : Int32) &&& 31).toUInt32).toInt32) &&& (255 : Int32))), .val (.int (((p1.toUInt32 >>> ((16 : Int32) &&& 31).toUInt32).toInt32) &&& (255 : Int32))), .val (.int (p2 &&& (255 : Int32))), .val (.int (((p2.toUInt32 >>> ((8 : Int32) &&& 31).toUInt32).toInt32) &&& (255 : Int32))), .val (.int (((p2.toUInt32 >>> ((16 : Int32) &&& 31).toUInt32).toInt32) &&& (255 : Int32))), .val (.ref b1), .val (.ref b5), .val (.ref b13), .val (.ref b21), .unset, .unset]) rfl k_) ?_
  show own_G p.tables e below T40 (mkF m 110 #[.val (.int p1), .val (.int p2), .val (.int (p1 &&& (255 : Int32))), .val (.int (((p1.toUInt32 >>> ((8 : Int32) &&& 31).toUInt32).toInt32) &&& (255 : Int32))), .val (.int (((p1.toUInt32 >>> ((16 : Int32) &&& 31).toUInt32).toInt32) &&& (255 : Int32))), .val (.int (p2 &&& (255 : Int32))), .val (.int (((p2.toUInt32 >>> ((8 : Int32) &&& 31).toUInt32).toInt32) &&& (255 : Int32))), .val (.int (((p2.toUInt32 >>> ((16 : Int32) &&& 31).toUInt32).toInt32) &&& (255 : Int32))), .val (.ref b1), .val (.ref b5), .val (.ref b13), .val (.ref b21), .unset, .unset] []) _
  refine own_go (fun t_ k_ => XS.aload X40.here hx rfl (hb hby at_110) rfl rfl k_) ?_
  show own_G p.tables e below T40 (mkF m 112 #[.val (.int p1), .val (.int p2), .val (.int (p1 &&& (255 : Int32))), .val (.int (((p1.toUInt32 >>> ((8 : Int32) &&& 31).toUInt32).toInt32) &&& (255 : Int32))), .val (.int (((p1.toUInt32 >>> ((16 : Int32) &&& 31).toUInt32).toInt32) &&& (255 : Int32))), .val (.int (p2 &&& (255 : Int32))), .val (.int (((p2.toUInt32 >>> ((8 : Int32) &&& 31).toUInt32).toInt32) &&& (255 : Int32))), .val (.int (((p2.toUInt32 >>> ((16 : Int32) &&& 31).toUInt32).toInt32) &&& (255 : Int32))), .val (.ref b1), .val (.ref b5), .val (.ref b13), .val (.ref b21), .unset, .unset] [(.ref b21)]) _
  have f53 : n0 ≤ T40.heap.size := (Nat.le_trans f34 K40.1)
  have f54 : Sta Z T40.heap "com/example/einzug/einzug/rules/PermittedCharacters" "PERMITTED" "[Z" (.ref aP) := (own_sk f39 K40 (own_pl1 (own_pl A21)))
  have f55 : Arr Z T40.heap aP clP .boolean := (own_akn f35 K40 (fun q => ne23 (List.mem_singleton.mp q)))
  have f56 : Arv Z T40.heap b1 k1 .char (2 : Int32) [(.int (p2 &&& (255 : Int32))), (.int (((p2.toUInt32 >>> ((8 : Int32) &&& 31).toUInt32).toInt32) &&& (255 : Int32)))] (.int (0 : Int32)) := (f36.keep K40 (fun q => ne25 (List.mem_singleton.mp q)))
  have f57 : Arv Z T40.heap b5 k5 .char (3 : Int32) [(.int (p1 &&& (255 : Int32))), (.int (((p1.toUInt32 >>> ((8 : Int32) &&& 31).toUInt32).toInt32) &&& (255 : Int32))), (.int (((p1.toUInt32 >>> ((16 : Int32) &&& 31).toUInt32).toInt32) &&& (255 : Int32)))] (.int (0 : Int32)) := (f37.keep K40 (fun q => ne27 (List.mem_singleton.mp q)))
  have f58 : Arv Z T40.heap b13 k13 .char (1 : Int32) [(.int (((p2.toUInt32 >>> ((16 : Int32) &&& 31).toUInt32).toInt32) &&& (255 : Int32)))] (.int (0 : Int32)) := (f38.keep K40 (fun q => ne28 (List.mem_singleton.mp q)))
  obtain ⟨cq59, kq59, q59a, q59b, q59c⟩ := isOf hZ rfl Ex40
  obtain ⟨_, _, ⟨T59, L59, k59, n59⟩, -, X59, ⟨Lc59, hQ59, l59, y59, z59⟩, st59⟩ := X40.virtualBack hx (y := (⟨"com/example/einzug/einzug/core/TextCharacters", "open", "()V"⟩ : MethodName)) (z := (⟨"com/example/einzug/einzug/core/TextCharacters", "open", "()V"⟩ : MethodName)) hown (mvT hZ (hw _ (List.mem_of_getElem? (i := 18) rfl))) (mvT hZ (hw _ (List.mem_of_getElem? (i := 19) rfl))) (notFace_of_selects (args := #[]) (mvT hZ (hw _ (List.mem_of_getElem? (i := 21) rfl)))) (mvT hZ (hw _ (List.mem_of_getElem? (i := 21) rfl))) (mvT hZ (hw _ (List.mem_of_getElem? (i := 20) rfl))) (by decide) (backOf (W := 0) (rm3d0 l Z a0 hw [] b21 aR40 aS40 aD40 kR40 kS40 kD40 (0 : Int32) (0 : Int32) (0 : Int32) (0 : Int32) (0 : Int32) (0 : Int32) T40.heap n0 f53 ge_b21 Ex40 Fd40 FR40 FS40 FD40 VR40 VS40 VD40 nRS40 nRD40 nSD40 m1R40 m1S40 m1D40 gR40 gS40 gD40) hZ (hw _ (List.mem_of_getElem? (i := 22) rfl)) (hw _ (List.mem_of_getElem? (i := 3) rfl)) (by decide) (by decide)) q59a q59c (g := (mkF m 112 #[.val (.int p1), .val (.int p2), .val (.int (p1 &&& (255 : Int32))), .val (.int (((p1.toUInt32 >>> ((8 : Int32) &&& 31).toUInt32).toInt32) &&& (255 : Int32))), .val (.int (((p1.toUInt32 >>> ((16 : Int32) &&& 31).toUInt32).toInt32) &&& (255 : Int32))), .val (.int (p2 &&& (255 : Int32))), .val (.int (((p2.toUInt32 >>> ((8 : Int32) &&& 31).toUInt32).toInt32) &&& (255 : Int32))), .val (.int (((p2.toUInt32 >>> ((16 : Int32) &&& 31).toUInt32).toInt32) &&& (255 : Int32))), .val (.ref b1), .val (.ref b5), .val (.ref b13), .val (.ref b21), .unset, .unset] [(.ref b21)])) rfl (by rw [hml]; rfl) (Steps.refl _) (argsL := []) (rest := []) (lenOf own_pd4 rfl) rfl (by show 2 * 0 + _ ≤ _; exact Nat.le_of_eq rfl) (hb hby at_112) (fun _ _ => ⟨rfl, rfl, (by decide : 7 + 0 ≤ _), (by decide : 34 + 0 ≤ _)⟩)
  dsimp only [Pt.U, Pt.locs, Pt.cells, Pt.slots] at X59 l59 y59 z59 st59 hQ59
  subst l59 y59 z59
  obtain ⟨rfl, N59q, K59, Ex59, Fd59, FR59, FS59, FD59, VR59, VS59, VD59⟩ := hQ59
  have N59 := Fr.app N40 N59q
  refine own_go (fun t_ k_ => st59.trans k_) ?_
  show own_G p.tables e below T59 (mkF m 115 #[.val (.int p1), .val (.int p2), .val (.int (p1 &&& (255 : Int32))), .val (.int (((p1.toUInt32 >>> ((8 : Int32) &&& 31).toUInt32).toInt32) &&& (255 : Int32))), .val (.int (((p1.toUInt32 >>> ((16 : Int32) &&& 31).toUInt32).toInt32) &&& (255 : Int32))), .val (.int (p2 &&& (255 : Int32))), .val (.int (((p2.toUInt32 >>> ((8 : Int32) &&& 31).toUInt32).toInt32) &&& (255 : Int32))), .val (.int (((p2.toUInt32 >>> ((16 : Int32) &&& 31).toUInt32).toInt32) &&& (255 : Int32))), .val (.ref b1), .val (.ref b5), .val (.ref b13), .val (.ref b21), .unset, .unset] []) _
  refine own_go (fun t_ k_ => XS.aload X59.here hx rfl (hb hby at_115) rfl rfl k_) ?_
  show own_G p.tables e below T59 (mkF m 117 #[.val (.int p1), .val (.int p2), .val (.int (p1 &&& (255 : Int32))), .val (.int (((p1.toUInt32 >>> ((8 : Int32) &&& 31).toUInt32).toInt32) &&& (255 : Int32))), .val (.int (((p1.toUInt32 >>> ((16 : Int32) &&& 31).toUInt32).toInt32) &&& (255 : Int32))), .val (.int (p2 &&& (255 : Int32))), .val (.int (((p2.toUInt32 >>> ((8 : Int32) &&& 31).toUInt32).toInt32) &&& (255 : Int32))), .val (.int (((p2.toUInt32 >>> ((16 : Int32) &&& 31).toUInt32).toInt32) &&& (255 : Int32))), .val (.ref b1), .val (.ref b5), .val (.ref b13), .val (.ref b21), .unset, .unset] [(.ref b21)]) _
  refine own_go (fun t_ k_ => XS.aload X59.here hx rfl (hb hby at_117) rfl rfl k_) ?_
  show own_G p.tables e below T59 (mkF m 119 #[.val (.int p1), .val (.int p2), .val (.int (p1 &&& (255 : Int32))), .val (.int (((p1.toUInt32 >>> ((8 : Int32) &&& 31).toUInt32).toInt32) &&& (255 : Int32))), .val (.int (((p1.toUInt32 >>> ((16 : Int32) &&& 31).toUInt32).toInt32) &&& (255 : Int32))), .val (.int (p2 &&& (255 : Int32))), .val (.int (((p2.toUInt32 >>> ((8 : Int32) &&& 31).toUInt32).toInt32) &&& (255 : Int32))), .val (.int (((p2.toUInt32 >>> ((16 : Int32) &&& 31).toUInt32).toInt32) &&& (255 : Int32))), .val (.ref b1), .val (.ref b5), .val (.ref b13), .val (.ref b21), .unset, .unset] [(.ref b1), (.ref b21)]) _
  refine own_go (fun t_ k_ => XS.iconst X59.here hx rfl (hb hby at_119) k_) ?_
  show own_G p.tables e below T59 (mkF m 120 #[.val (.int p1), .val (.int p2), .val (.int (p1 &&& (255 : Int32))), .val (.int (((p1.toUInt32 >>> ((8 : Int32) &&& 31).toUInt32).toInt32) &&& (255 : Int32))), .val (.int (((p1.toUInt32 >>> ((16 : Int32) &&& 31).toUInt32).toInt32) &&& (255 : Int32))), .val (.int (p2 &&& (255 : Int32))), .val (.int (((p2.toUInt32 >>> ((8 : Int32) &&& 31).toUInt32).toInt32) &&& (255 : Int32))), .val (.int (((p2.toUInt32 >>> ((16 : Int32) &&& 31).toUInt32).toInt32) &&& (255 : Int32))), .val (.ref b1), .val (.ref b5), .val (.ref b13), .val (.ref b21), .unset, .unset] [(.int (0 : Int32)), (.ref b1), (.ref b21)]) _
  refine own_go (fun t_ k_ => XS.iconst X59.here hx rfl (hb hby at_120) k_) ?_
  show own_G p.tables e below T59 (mkF m 121 #[.val (.int p1), .val (.int p2), .val (.int (p1 &&& (255 : Int32))), .val (.int (((p1.toUInt32 >>> ((8 : Int32) &&& 31).toUInt32).toInt32) &&& (255 : Int32))), .val (.int (((p1.toUInt32 >>> ((16 : Int32) &&& 31).toUInt32).toInt32) &&& (255 : Int32))), .val (.int (p2 &&& (255 : Int32))), .val (.int (((p2.toUInt32 >>> ((8 : Int32) &&& 31).toUInt32).toInt32) &&& (255 : Int32))), .val (.int (((p2.toUInt32 >>> ((16 : Int32) &&& 31).toUInt32).toInt32) &&& (255 : Int32))), .val (.ref b1), .val (.ref b5), .val (.ref b13), .val (.ref b21), .unset, .unset] [(.int (2 : Int32)), (.int (0 : Int32)), (.ref b1), (.ref b21)]) _
  have f60 : n0 ≤ T59.heap.size := (Nat.le_trans f53 K59.1)
  have f61 : Sta Z T59.heap "com/example/einzug/einzug/rules/PermittedCharacters" "PERMITTED" "[Z" (.ref aP) := (own_sk f54 K59 (allS (P := fun x => ∀ c : Cell, T40.heap[x]? = some c → c.vm.isStatics = false) (own_pl Ex40) (allS (P := fun x => ∀ c : Cell, T40.heap[x]? = some c → c.vm.isStatics = false) (own_plv VR40) (allS (P := fun x => ∀ c : Cell, T40.heap[x]? = some c → c.vm.isStatics = false) (own_plv VS40) (allS (P := fun x => ∀ c : Cell, T40.heap[x]? = some c → c.vm.isStatics = false) (own_plv VD40) all0)))))
  have f62 : Arr Z T59.heap aP clP .boolean := (own_akn f55 K59 (by simp only [List.mem_cons, List.not_mem_nil, or_false, not_or]; exact ⟨ne23, ne41, ne45, ne49⟩))
  have f63 : Arv Z T59.heap b1 k1 .char (2 : Int32) [(.int (p2 &&& (255 : Int32))), (.int (((p2.toUInt32 >>> ((8 : Int32) &&& 31).toUInt32).toInt32) &&& (255 : Int32)))] (.int (0 : Int32)) := (f56.keep K59 (by simp only [List.mem_cons, List.not_mem_nil, or_false, not_or]; exact ⟨ne25, ne42, ne46, ne50⟩))
  have f64 : Arv Z T59.heap b5 k5 .char (3 : Int32) [(.int (p1 &&& (255 : Int32))), (.int (((p1.toUInt32 >>> ((8 : Int32) &&& 31).toUInt32).toInt32) &&& (255 : Int32))), (.int (((p1.toUInt32 >>> ((16 : Int32) &&& 31).toUInt32).toInt32) &&& (255 : Int32)))] (.int (0 : Int32)) := (f57.keep K59 (by simp only [List.mem_cons, List.not_mem_nil, or_false, not_or]; exact ⟨ne27, ne43, ne47, ne51⟩))
  have f65 : Arv Z T59.heap b13 k13 .char (1 : Int32) [(.int (((p2.toUInt32 >>> ((16 : Int32) &&& 31).toUInt32).toInt32) &&& (255 : Int32)))] (.int (0 : Int32)) := (f58.keep K59 (by simp only [List.mem_cons, List.not_mem_nil, or_false, not_or]; exact ⟨ne28, ne44, ne48, ne52⟩))
  obtain ⟨cq66, kq66, q66a, q66b, q66c⟩ := isOf hZ rfl Ex59
  obtain ⟨_, _, ⟨T66, L66, k66, n66⟩, -, X66, ⟨Lc66, hQ66, l66, y66, z66⟩, st66⟩ := X59.virtualBack hx (y := (⟨"com/example/einzug/einzug/core/TextCharacters", "characters", "([CII)V"⟩ : MethodName)) (z := (⟨"com/example/einzug/einzug/core/TextCharacters", "characters", "([CII)V"⟩ : MethodName)) hown (mvT hZ (hw _ (List.mem_of_getElem? (i := 25) rfl))) (mvT hZ (hw _ (List.mem_of_getElem? (i := 26) rfl))) (notFace_of_selects (args := #[]) (mvT hZ (hw _ (List.mem_of_getElem? (i := 28) rfl)))) (mvT hZ (hw _ (List.mem_of_getElem? (i := 28) rfl))) (mvT hZ (hw _ (List.mem_of_getElem? (i := 27) rfl))) (by decide) (backOf (W := 0) (rm4n2d1 l Z a0 hw [] b21 b1 aR40 aS40 aD40 kR40 kS40 kD40 (-1 : Int32) (0 : Int32) (0 : Int32) (0 : Int32) (-1 : Int32) (0 : Int32) k1 (p2 &&& (255 : Int32)) (((p2.toUInt32 >>> ((8 : Int32) &&& 31).toUInt32).toInt32) &&& (255 : Int32)) aP clP T59.heap n0 f60 f61 f62 sz_P tab_P Ex59 Fd59 FR59 FS59 FD59 VR59 VS59 VD59 nRS40 nRD40 nSD40 m1R40 m1S40 m1D40 gR40 gS40 gD40 f63 (Or.inl rfl) (own_m255 _) (own_m255 _)) hZ (hw _ (List.mem_of_getElem? (i := 29) rfl)) (hw _ (List.mem_of_getElem? (i := 3) rfl)) (by decide) (by decide)) q66a q66c (g := (mkF m 121 #[.val (.int p1), .val (.int p2), .val (.int (p1 &&& (255 : Int32))), .val (.int (((p1.toUInt32 >>> ((8 : Int32) &&& 31).toUInt32).toInt32) &&& (255 : Int32))), .val (.int (((p1.toUInt32 >>> ((16 : Int32) &&& 31).toUInt32).toInt32) &&& (255 : Int32))), .val (.int (p2 &&& (255 : Int32))), .val (.int (((p2.toUInt32 >>> ((8 : Int32) &&& 31).toUInt32).toInt32) &&& (255 : Int32))), .val (.int (((p2.toUInt32 >>> ((16 : Int32) &&& 31).toUInt32).toInt32) &&& (255 : Int32))), .val (.ref b1), .val (.ref b5), .val (.ref b13), .val (.ref b21), .unset, .unset] [(.int (2 : Int32)), (.int (0 : Int32)), (.ref b1), (.ref b21)])) rfl (by rw [hml]; rfl) (Steps.refl _) (argsL := [(.ref b1), (.int (0 : Int32)), (.int (2 : Int32))]) (rest := []) (lenOf own_pd5 rfl) rfl (by show 2 * 0 + _ ≤ _; exact Nat.le_of_eq rfl) (hb hby at_121) (fun _ _ => ⟨rfl, rfl, (by decide : 7 + 0 ≤ _), (by decide : 34 + 0 ≤ _)⟩)
  dsimp only [Pt.U, Pt.locs, Pt.cells, Pt.slots] at X66 l66 y66 z66 st66 hQ66
  subst l66 y66 z66
  obtain ⟨rfl, N66q, K66, VR66, VS66, VD66⟩ := hQ66
  have N66 := Fr.app N59 N66q
  refine own_go (fun t_ k_ => st66.trans k_) ?_
  show own_G p.tables e below T66 (mkF m 124 #[.val (.int p1), .val (.int p2), .val (.int (p1 &&& (255 : Int32))), .val (.int (((p1.toUInt32 >>> ((8 : Int32) &&& 31).toUInt32).toInt32) &&& (255 : Int32))), .val (.int (((p1.toUInt32 >>> ((16 : Int32) &&& 31).toUInt32).toInt32) &&& (255 : Int32))), .val (.int (p2 &&& (255 : Int32))), .val (.int (((p2.toUInt32 >>> ((8 : Int32) &&& 31).toUInt32).toInt32) &&& (255 : Int32))), .val (.int (((p2.toUInt32 >>> ((16 : Int32) &&& 31).toUInt32).toInt32) &&& (255 : Int32))), .val (.ref b1), .val (.ref b5), .val (.ref b13), .val (.ref b21), .unset, .unset] []) _
  refine own_go (fun t_ k_ => XS.aload X66.here hx rfl (hb hby at_124) rfl rfl k_) ?_
  show own_G p.tables e below T66 (mkF m 126 #[.val (.int p1), .val (.int p2), .val (.int (p1 &&& (255 : Int32))), .val (.int (((p1.toUInt32 >>> ((8 : Int32) &&& 31).toUInt32).toInt32) &&& (255 : Int32))), .val (.int (((p1.toUInt32 >>> ((16 : Int32) &&& 31).toUInt32).toInt32) &&& (255 : Int32))), .val (.int (p2 &&& (255 : Int32))), .val (.int (((p2.toUInt32 >>> ((8 : Int32) &&& 31).toUInt32).toInt32) &&& (255 : Int32))), .val (.int (((p2.toUInt32 >>> ((16 : Int32) &&& 31).toUInt32).toInt32) &&& (255 : Int32))), .val (.ref b1), .val (.ref b5), .val (.ref b13), .val (.ref b21), .unset, .unset] [(.ref b21)]) _
  have f67 : n0 ≤ T66.heap.size := (Nat.le_trans f60 K66.1)
  have f68 : Sta Z T66.heap "com/example/einzug/einzug/rules/PermittedCharacters" "PERMITTED" "[Z" (.ref aP) := (own_sk f61 K66 (allS (P := fun x => ∀ c : Cell, T59.heap[x]? = some c → c.vm.isStatics = false) (own_plv VR59) (allS (P := fun x => ∀ c : Cell, T59.heap[x]? = some c → c.vm.isStatics = false) (own_plv VS59) (allS (P := fun x => ∀ c : Cell, T59.heap[x]? = some c → c.vm.isStatics = false) (own_plv VD59) all0))))
  have f69 : Arr Z T66.heap aP clP .boolean := (own_akn f62 K66 (by simp only [List.mem_cons, List.not_mem_nil, or_false, not_or]; exact ⟨ne41, ne45, ne49⟩))
  have f70 : Exa Z T66.heap b21 "com/example/einzug/einzug/core/TextCharacters" := (Ex59.keep K66)
  have f71 : Fld Z T66.heap b21 "com/example/einzug/einzug/core/TextCharacters" "depth" "I" (.int (1 : Int32)) := (Fd59.keep K66 (by simp only [List.mem_cons, List.not_mem_nil, or_false, not_or]; exact ⟨m1R40, m1S40, m1D40⟩))
  have f72 : Fld Z T66.heap b21 "com/example/einzug/einzug/core/TextCharacters" "refused" "[I" (.ref aR40) := (FR59.keep K66 (by simp only [List.mem_cons, List.not_mem_nil, or_false, not_or]; exact ⟨m1R40, m1S40, m1D40⟩))
  have f73 : Fld Z T66.heap b21 "com/example/einzug/einzug/core/TextCharacters" "started" "[Z" (.ref aS40) := (FS59.keep K66 (by simp only [List.mem_cons, List.not_mem_nil, or_false, not_or]; exact ⟨m1R40, m1S40, m1D40⟩))
  have f74 : Fld Z T66.heap b21 "com/example/einzug/einzug/core/TextCharacters" "pending" "[I" (.ref aD40) := (FD59.keep K66 (by simp only [List.mem_cons, List.not_mem_nil, or_false, not_or]; exact ⟨m1R40, m1S40, m1D40⟩))
  have f75 : Arv Z T66.heap b5 k5 .char (3 : Int32) [(.int (p1 &&& (255 : Int32))), (.int (((p1.toUInt32 >>> ((8 : Int32) &&& 31).toUInt32).toInt32) &&& (255 : Int32))), (.int (((p1.toUInt32 >>> ((16 : Int32) &&& 31).toUInt32).toInt32) &&& (255 : Int32)))] (.int (0 : Int32)) := (f64.keep K66 (by simp only [List.mem_cons, List.not_mem_nil, or_false, not_or]; exact ⟨ne43, ne47, ne51⟩))
  have f76 : Arv Z T66.heap b13 k13 .char (1 : Int32) [(.int (((p2.toUInt32 >>> ((16 : Int32) &&& 31).toUInt32).toInt32) &&& (255 : Int32)))] (.int (0 : Int32)) := (f65.keep K66 (by simp only [List.mem_cons, List.not_mem_nil, or_false, not_or]; exact ⟨ne44, ne48, ne52⟩))
  obtain ⟨cq77, kq77, q77a, q77b, q77c⟩ := isOf hZ rfl f70
  obtain ⟨_, _, ⟨T77, L77, k77, n77⟩, -, X77, ⟨Lc77, hQ77, l77, y77, z77⟩, st77⟩ := X66.virtualBack hx (y := (⟨"com/example/einzug/einzug/core/TextCharacters", "open", "()V"⟩ : MethodName)) (z := (⟨"com/example/einzug/einzug/core/TextCharacters", "open", "()V"⟩ : MethodName)) hown (mvT hZ (hw _ (List.mem_of_getElem? (i := 18) rfl))) (mvT hZ (hw _ (List.mem_of_getElem? (i := 19) rfl))) (notFace_of_selects (args := #[]) (mvT hZ (hw _ (List.mem_of_getElem? (i := 21) rfl)))) (mvT hZ (hw _ (List.mem_of_getElem? (i := 21) rfl))) (mvT hZ (hw _ (List.mem_of_getElem? (i := 20) rfl))) (by decide) (backOf (W := 0) (rm3d1 l Z a0 hw [] b21 aR40 aS40 aD40 kR40 kS40 kD40 (own_run [(p2 &&& (255 : Int32)), (((p2.toUInt32 >>> ((8 : Int32) &&& 31).toUInt32).toInt32) &&& (255 : Int32))] ((-1 : Int32), (0 : Int32), (-1 : Int32))).1 (0 : Int32) (own_run [(p2 &&& (255 : Int32)), (((p2.toUInt32 >>> ((8 : Int32) &&& 31).toUInt32).toInt32) &&& (255 : Int32))] ((-1 : Int32), (0 : Int32), (-1 : Int32))).2.1 (0 : Int32) (own_run [(p2 &&& (255 : Int32)), (((p2.toUInt32 >>> ((8 : Int32) &&& 31).toUInt32).toInt32) &&& (255 : Int32))] ((-1 : Int32), (0 : Int32), (-1 : Int32))).2.2 (0 : Int32) T66.heap n0 f67 ge_b21 f70 f71 f72 f73 f74 VR66 VS66 VD66 nRS40 nRD40 nSD40 m1R40 m1S40 m1D40 gR40 gS40 gD40) hZ (hw _ (List.mem_of_getElem? (i := 22) rfl)) (hw _ (List.mem_of_getElem? (i := 3) rfl)) (by decide) (by decide)) q77a q77c (g := (mkF m 126 #[.val (.int p1), .val (.int p2), .val (.int (p1 &&& (255 : Int32))), .val (.int (((p1.toUInt32 >>> ((8 : Int32) &&& 31).toUInt32).toInt32) &&& (255 : Int32))), .val (.int (((p1.toUInt32 >>> ((16 : Int32) &&& 31).toUInt32).toInt32) &&& (255 : Int32))), .val (.int (p2 &&& (255 : Int32))), .val (.int (((p2.toUInt32 >>> ((8 : Int32) &&& 31).toUInt32).toInt32) &&& (255 : Int32))), .val (.int (((p2.toUInt32 >>> ((16 : Int32) &&& 31).toUInt32).toInt32) &&& (255 : Int32))), .val (.ref b1), .val (.ref b5), .val (.ref b13), .val (.ref b21), .unset, .unset] [(.ref b21)])) rfl (by rw [hml]; rfl) (Steps.refl _) (argsL := []) (rest := []) (lenOf own_pd4 rfl) rfl (by show 2 * 0 + _ ≤ _; exact Nat.le_of_eq rfl) (hb hby at_126) (fun _ _ => ⟨rfl, rfl, (by decide : 7 + 0 ≤ _), (by decide : 34 + 0 ≤ _)⟩)
  dsimp only [Pt.U, Pt.locs, Pt.cells, Pt.slots] at X77 l77 y77 z77 st77 hQ77
  subst l77 y77 z77
  obtain ⟨rfl, N77q, K77, Ex77, Fd77, FR77, FS77, FD77, VR77, VS77, VD77⟩ := hQ77
  have N77 := Fr.app N66 N77q
  refine own_go (fun t_ k_ => st77.trans k_) ?_
  show own_G p.tables e below T77 (mkF m 129 #[.val (.int p1), .val (.int p2), .val (.int (p1 &&& (255 : Int32))), .val (.int (((p1.toUInt32 >>> ((8 : Int32) &&& 31).toUInt32).toInt32) &&& (255 : Int32))), .val (.int (((p1.toUInt32 >>> ((16 : Int32) &&& 31).toUInt32).toInt32) &&& (255 : Int32))), .val (.int (p2 &&& (255 : Int32))), .val (.int (((p2.toUInt32 >>> ((8 : Int32) &&& 31).toUInt32).toInt32) &&& (255 : Int32))), .val (.int (((p2.toUInt32 >>> ((16 : Int32) &&& 31).toUInt32).toInt32) &&& (255 : Int32))), .val (.ref b1), .val (.ref b5), .val (.ref b13), .val (.ref b21), .unset, .unset] []) _
  refine own_go (fun t_ k_ => XS.aload X77.here hx rfl (hb hby at_129) rfl rfl k_) ?_
  show own_G p.tables e below T77 (mkF m 131 #[.val (.int p1), .val (.int p2), .val (.int (p1 &&& (255 : Int32))), .val (.int (((p1.toUInt32 >>> ((8 : Int32) &&& 31).toUInt32).toInt32) &&& (255 : Int32))), .val (.int (((p1.toUInt32 >>> ((16 : Int32) &&& 31).toUInt32).toInt32) &&& (255 : Int32))), .val (.int (p2 &&& (255 : Int32))), .val (.int (((p2.toUInt32 >>> ((8 : Int32) &&& 31).toUInt32).toInt32) &&& (255 : Int32))), .val (.int (((p2.toUInt32 >>> ((16 : Int32) &&& 31).toUInt32).toInt32) &&& (255 : Int32))), .val (.ref b1), .val (.ref b5), .val (.ref b13), .val (.ref b21), .unset, .unset] [(.ref b21)]) _
  refine own_go (fun t_ k_ => XS.aload X77.here hx rfl (hb hby at_131) rfl rfl k_) ?_
  show own_G p.tables e below T77 (mkF m 133 #[.val (.int p1), .val (.int p2), .val (.int (p1 &&& (255 : Int32))), .val (.int (((p1.toUInt32 >>> ((8 : Int32) &&& 31).toUInt32).toInt32) &&& (255 : Int32))), .val (.int (((p1.toUInt32 >>> ((16 : Int32) &&& 31).toUInt32).toInt32) &&& (255 : Int32))), .val (.int (p2 &&& (255 : Int32))), .val (.int (((p2.toUInt32 >>> ((8 : Int32) &&& 31).toUInt32).toInt32) &&& (255 : Int32))), .val (.int (((p2.toUInt32 >>> ((16 : Int32) &&& 31).toUInt32).toInt32) &&& (255 : Int32))), .val (.ref b1), .val (.ref b5), .val (.ref b13), .val (.ref b21), .unset, .unset] [(.ref b5), (.ref b21)]) _
  refine own_go (fun t_ k_ => XS.iconst X77.here hx rfl (hb hby at_133) k_) ?_
  show own_G p.tables e below T77 (mkF m 134 #[.val (.int p1), .val (.int p2), .val (.int (p1 &&& (255 : Int32))), .val (.int (((p1.toUInt32 >>> ((8 : Int32) &&& 31).toUInt32).toInt32) &&& (255 : Int32))), .val (.int (((p1.toUInt32 >>> ((16 : Int32) &&& 31).toUInt32).toInt32) &&& (255 : Int32))), .val (.int (p2 &&& (255 : Int32))), .val (.int (((p2.toUInt32 >>> ((8 : Int32) &&& 31).toUInt32).toInt32) &&& (255 : Int32))), .val (.int (((p2.toUInt32 >>> ((16 : Int32) &&& 31).toUInt32).toInt32) &&& (255 : Int32))), .val (.ref b1), .val (.ref b5), .val (.ref b13), .val (.ref b21), .unset, .unset] [(.int (0 : Int32)), (.ref b5), (.ref b21)]) _
  refine own_go (fun t_ k_ => XS.iconst X77.here hx rfl (hb hby at_134) k_) ?_
  show own_G p.tables e below T77 (mkF m 135 #[.val (.int p1), .val (.int p2), .val (.int (p1 &&& (255 : Int32))), .val (.int (((p1.toUInt32 >>> ((8 : Int32) &&& 31).toUInt32).toInt32) &&& (255 : Int32))), .val (.int (((p1.toUInt32 >>> ((16 : Int32) &&& 31).toUInt32).toInt32) &&& (255 : Int32))), .val (.int (p2 &&& (255 : Int32))), .val (.int (((p2.toUInt32 >>> ((8 : Int32) &&& 31).toUInt32).toInt32) &&& (255 : Int32))), .val (.int (((p2.toUInt32 >>> ((16 : Int32) &&& 31).toUInt32).toInt32) &&& (255 : Int32))), .val (.ref b1), .val (.ref b5), .val (.ref b13), .val (.ref b21), .unset, .unset] [(.int (3 : Int32)), (.int (0 : Int32)), (.ref b5), (.ref b21)]) _
  have f78 : n0 ≤ T77.heap.size := (Nat.le_trans f67 K77.1)
  have f79 : Sta Z T77.heap "com/example/einzug/einzug/rules/PermittedCharacters" "PERMITTED" "[Z" (.ref aP) := (own_sk f68 K77 (allS (P := fun x => ∀ c : Cell, T66.heap[x]? = some c → c.vm.isStatics = false) (own_pl f70) (allS (P := fun x => ∀ c : Cell, T66.heap[x]? = some c → c.vm.isStatics = false) (own_plv VR66) (allS (P := fun x => ∀ c : Cell, T66.heap[x]? = some c → c.vm.isStatics = false) (own_plv VS66) (allS (P := fun x => ∀ c : Cell, T66.heap[x]? = some c → c.vm.isStatics = false) (own_plv VD66) all0)))))
  have f80 : Arr Z T77.heap aP clP .boolean := (own_akn f69 K77 (by simp only [List.mem_cons, List.not_mem_nil, or_false, not_or]; exact ⟨ne23, ne41, ne45, ne49⟩))
  have f81 : Arv Z T77.heap b5 k5 .char (3 : Int32) [(.int (p1 &&& (255 : Int32))), (.int (((p1.toUInt32 >>> ((8 : Int32) &&& 31).toUInt32).toInt32) &&& (255 : Int32))), (.int (((p1.toUInt32 >>> ((16 : Int32) &&& 31).toUInt32).toInt32) &&& (255 : Int32)))] (.int (0 : Int32)) := (f75.keep K77 (by simp only [List.mem_cons, List.not_mem_nil, or_false, not_or]; exact ⟨ne27, ne43, ne47, ne51⟩))
  have f82 : Arv Z T77.heap b13 k13 .char (1 : Int32) [(.int (((p2.toUInt32 >>> ((16 : Int32) &&& 31).toUInt32).toInt32) &&& (255 : Int32)))] (.int (0 : Int32)) := (f76.keep K77 (by simp only [List.mem_cons, List.not_mem_nil, or_false, not_or]; exact ⟨ne28, ne44, ne48, ne52⟩))
  obtain ⟨cq83, kq83, q83a, q83b, q83c⟩ := isOf hZ rfl Ex77
  obtain ⟨_, _, ⟨T83, L83, k83, n83⟩, -, X83, ⟨Lc83, hQ83, l83, y83, z83⟩, st83⟩ := X77.virtualBack hx (y := (⟨"com/example/einzug/einzug/core/TextCharacters", "characters", "([CII)V"⟩ : MethodName)) (z := (⟨"com/example/einzug/einzug/core/TextCharacters", "characters", "([CII)V"⟩ : MethodName)) hown (mvT hZ (hw _ (List.mem_of_getElem? (i := 25) rfl))) (mvT hZ (hw _ (List.mem_of_getElem? (i := 26) rfl))) (notFace_of_selects (args := #[]) (mvT hZ (hw _ (List.mem_of_getElem? (i := 28) rfl)))) (mvT hZ (hw _ (List.mem_of_getElem? (i := 28) rfl))) (mvT hZ (hw _ (List.mem_of_getElem? (i := 27) rfl))) (by decide) (backOf (W := 0) (rm4n3d2 l Z a0 hw [] b21 b5 aR40 aS40 aD40 kR40 kS40 kD40 (own_run [(p2 &&& (255 : Int32)), (((p2.toUInt32 >>> ((8 : Int32) &&& 31).toUInt32).toInt32) &&& (255 : Int32))] ((-1 : Int32), (0 : Int32), (-1 : Int32))).1 (-1 : Int32) (own_run [(p2 &&& (255 : Int32)), (((p2.toUInt32 >>> ((8 : Int32) &&& 31).toUInt32).toInt32) &&& (255 : Int32))] ((-1 : Int32), (0 : Int32), (-1 : Int32))).2.1 (0 : Int32) (own_run [(p2 &&& (255 : Int32)), (((p2.toUInt32 >>> ((8 : Int32) &&& 31).toUInt32).toInt32) &&& (255 : Int32))] ((-1 : Int32), (0 : Int32), (-1 : Int32))).2.2 (-1 : Int32) k5 (p1 &&& (255 : Int32)) (((p1.toUInt32 >>> ((8 : Int32) &&& 31).toUInt32).toInt32) &&& (255 : Int32)) (((p1.toUInt32 >>> ((16 : Int32) &&& 31).toUInt32).toInt32) &&& (255 : Int32)) aP clP T77.heap n0 f78 f79 f80 sz_P tab_P Ex77 Fd77 FR77 FS77 FD77 VR77 VS77 VD77 nRS40 nRD40 nSD40 m1R40 m1S40 m1D40 gR40 gS40 gD40 f81 (Or.inl rfl) (own_m255 _) (own_m255 _) (own_m255 _)) hZ (hw _ (List.mem_of_getElem? (i := 29) rfl)) (hw _ (List.mem_of_getElem? (i := 3) rfl)) (by decide) (by decide)) q83a q83c (g := (mkF m 135 #[.val (.int p1), .val (.int p2), .val (.int (p1 &&& (255 : Int32))), .val (.int (((p1.toUInt32 >>> ((8 : Int32) &&& 31).toUInt32).toInt32) &&& (255 : Int32))), .val (.int (((p1.toUInt32 >>> ((16 : Int32) &&& 31).toUInt32).toInt32) &&& (255 : Int32))), .val (.int (p2 &&& (255 : Int32))), .val (.int (((p2.toUInt32 >>> ((8 : Int32) &&& 31).toUInt32).toInt32) &&& (255 : Int32))), .val (.int (((p2.toUInt32 >>> ((16 : Int32) &&& 31).toUInt32).toInt32) &&& (255 : Int32))), .val (.ref b1), .val (.ref b5), .val (.ref b13), .val (.ref b21), .unset, .unset] [(.int (3 : Int32)), (.int (0 : Int32)), (.ref b5), (.ref b21)])) rfl (by rw [hml]; rfl) (Steps.refl _) (argsL := [(.ref b5), (.int (0 : Int32)), (.int (3 : Int32))]) (rest := []) (lenOf own_pd5 rfl) rfl (by show 2 * 0 + _ ≤ _; exact Nat.le_of_eq rfl) (hb hby at_135) (fun _ _ => ⟨rfl, rfl, (by decide : 7 + 0 ≤ _), (by decide : 34 + 0 ≤ _)⟩)
  dsimp only [Pt.U, Pt.locs, Pt.cells, Pt.slots] at X83 l83 y83 z83 st83 hQ83
  subst l83 y83 z83
  obtain ⟨rfl, N83q, K83, VR83, VS83, VD83⟩ := hQ83
  have N83 := Fr.app N77 N83q
  refine own_go (fun t_ k_ => st83.trans k_) ?_
  show own_G p.tables e below T83 (mkF m 138 #[.val (.int p1), .val (.int p2), .val (.int (p1 &&& (255 : Int32))), .val (.int (((p1.toUInt32 >>> ((8 : Int32) &&& 31).toUInt32).toInt32) &&& (255 : Int32))), .val (.int (((p1.toUInt32 >>> ((16 : Int32) &&& 31).toUInt32).toInt32) &&& (255 : Int32))), .val (.int (p2 &&& (255 : Int32))), .val (.int (((p2.toUInt32 >>> ((8 : Int32) &&& 31).toUInt32).toInt32) &&& (255 : Int32))), .val (.int (((p2.toUInt32 >>> ((16 : Int32) &&& 31).toUInt32).toInt32) &&& (255 : Int32))), .val (.ref b1), .val (.ref b5), .val (.ref b13), .val (.ref b21), .unset, .unset] []) _
  refine own_go (fun t_ k_ => XS.aload X83.here hx rfl (hb hby at_138) rfl rfl k_) ?_
  show own_G p.tables e below T83 (mkF m 140 #[.val (.int p1), .val (.int p2), .val (.int (p1 &&& (255 : Int32))), .val (.int (((p1.toUInt32 >>> ((8 : Int32) &&& 31).toUInt32).toInt32) &&& (255 : Int32))), .val (.int (((p1.toUInt32 >>> ((16 : Int32) &&& 31).toUInt32).toInt32) &&& (255 : Int32))), .val (.int (p2 &&& (255 : Int32))), .val (.int (((p2.toUInt32 >>> ((8 : Int32) &&& 31).toUInt32).toInt32) &&& (255 : Int32))), .val (.int (((p2.toUInt32 >>> ((16 : Int32) &&& 31).toUInt32).toInt32) &&& (255 : Int32))), .val (.ref b1), .val (.ref b5), .val (.ref b13), .val (.ref b21), .unset, .unset] [(.ref b21)]) _
  have f84 : n0 ≤ T83.heap.size := (Nat.le_trans f78 K83.1)
  have f85 : Sta Z T83.heap "com/example/einzug/einzug/rules/PermittedCharacters" "PERMITTED" "[Z" (.ref aP) := (own_sk f79 K83 (allS (P := fun x => ∀ c : Cell, T77.heap[x]? = some c → c.vm.isStatics = false) (own_plv VR77) (allS (P := fun x => ∀ c : Cell, T77.heap[x]? = some c → c.vm.isStatics = false) (own_plv VS77) (allS (P := fun x => ∀ c : Cell, T77.heap[x]? = some c → c.vm.isStatics = false) (own_plv VD77) all0))))
  have f86 : Arr Z T83.heap aP clP .boolean := (own_akn f80 K83 (by simp only [List.mem_cons, List.not_mem_nil, or_false, not_or]; exact ⟨ne41, ne45, ne49⟩))
  have f87 : Exa Z T83.heap b21 "com/example/einzug/einzug/core/TextCharacters" := (Ex77.keep K83)
  have f88 : Fld Z T83.heap b21 "com/example/einzug/einzug/core/TextCharacters" "depth" "I" (.int (2 : Int32)) := (Fd77.keep K83 (by simp only [List.mem_cons, List.not_mem_nil, or_false, not_or]; exact ⟨m1R40, m1S40, m1D40⟩))
  have f89 : Fld Z T83.heap b21 "com/example/einzug/einzug/core/TextCharacters" "refused" "[I" (.ref aR40) := (FR77.keep K83 (by simp only [List.mem_cons, List.not_mem_nil, or_false, not_or]; exact ⟨m1R40, m1S40, m1D40⟩))
  have f90 : Fld Z T83.heap b21 "com/example/einzug/einzug/core/TextCharacters" "started" "[Z" (.ref aS40) := (FS77.keep K83 (by simp only [List.mem_cons, List.not_mem_nil, or_false, not_or]; exact ⟨m1R40, m1S40, m1D40⟩))
  have f91 : Fld Z T83.heap b21 "com/example/einzug/einzug/core/TextCharacters" "pending" "[I" (.ref aD40) := (FD77.keep K83 (by simp only [List.mem_cons, List.not_mem_nil, or_false, not_or]; exact ⟨m1R40, m1S40, m1D40⟩))
  have f92 : Arv Z T83.heap b13 k13 .char (1 : Int32) [(.int (((p2.toUInt32 >>> ((16 : Int32) &&& 31).toUInt32).toInt32) &&& (255 : Int32)))] (.int (0 : Int32)) := (f82.keep K83 (by simp only [List.mem_cons, List.not_mem_nil, or_false, not_or]; exact ⟨ne44, ne48, ne52⟩))
  obtain ⟨cq93, kq93, q93a, q93b, q93c⟩ := isOf hZ rfl f87
  obtain ⟨_, _, ⟨T93, L93, k93, n93⟩, -, X93, ⟨Lc93, hQ93, l93, y93, z93⟩, st93⟩ := X83.virtualBack hx (y := (⟨"com/example/einzug/einzug/core/TextCharacters", "close", "()I"⟩ : MethodName)) (z := (⟨"com/example/einzug/einzug/core/TextCharacters", "close", "()I"⟩ : MethodName)) hown (mvT hZ (hw _ (List.mem_of_getElem? (i := 55) rfl))) (mvT hZ (hw _ (List.mem_of_getElem? (i := 56) rfl))) (notFace_of_selects (args := #[]) (mvT hZ (hw _ (List.mem_of_getElem? (i := 58) rfl)))) (mvT hZ (hw _ (List.mem_of_getElem? (i := 58) rfl))) (mvT hZ (hw _ (List.mem_of_getElem? (i := 57) rfl))) (by decide) (backOf (W := 0) (rm11d2 l Z a0 hw [] b21 aR40 kR40 (own_run [(p2 &&& (255 : Int32)), (((p2.toUInt32 >>> ((8 : Int32) &&& 31).toUInt32).toInt32) &&& (255 : Int32))] ((-1 : Int32), (0 : Int32), (-1 : Int32))).1 (own_run [(p1 &&& (255 : Int32)), (((p1.toUInt32 >>> ((8 : Int32) &&& 31).toUInt32).toInt32) &&& (255 : Int32)), (((p1.toUInt32 >>> ((16 : Int32) &&& 31).toUInt32).toInt32) &&& (255 : Int32))] ((-1 : Int32), (0 : Int32), (-1 : Int32))).1 T83.heap n0 f84 ge_b21 f87 f88 f89 VR83 m1R40) hZ (hw _ (List.mem_of_getElem? (i := 59) rfl)) (hw _ (List.mem_of_getElem? (i := 3) rfl)) (by decide) (by decide)) q93a q93c (g := (mkF m 140 #[.val (.int p1), .val (.int p2), .val (.int (p1 &&& (255 : Int32))), .val (.int (((p1.toUInt32 >>> ((8 : Int32) &&& 31).toUInt32).toInt32) &&& (255 : Int32))), .val (.int (((p1.toUInt32 >>> ((16 : Int32) &&& 31).toUInt32).toInt32) &&& (255 : Int32))), .val (.int (p2 &&& (255 : Int32))), .val (.int (((p2.toUInt32 >>> ((8 : Int32) &&& 31).toUInt32).toInt32) &&& (255 : Int32))), .val (.int (((p2.toUInt32 >>> ((16 : Int32) &&& 31).toUInt32).toInt32) &&& (255 : Int32))), .val (.ref b1), .val (.ref b5), .val (.ref b13), .val (.ref b21), .unset, .unset] [(.ref b21)])) rfl (by rw [hml]; rfl) (Steps.refl _) (argsL := []) (rest := []) (lenOf own_pd6 rfl) rfl (by show 2 * 0 + _ ≤ _; exact Nat.le_of_eq rfl) (hb hby at_140) (fun _ _ => ⟨rfl, rfl, (by decide : 7 + 0 ≤ _), (by decide : 34 + 0 ≤ _)⟩)
  dsimp only [Pt.U, Pt.locs, Pt.cells, Pt.slots] at X93 l93 y93 z93 st93 hQ93
  subst l93 y93 z93
  obtain ⟨rfl, N93q, K93, Ex93, Fd93, FR93, Fo93⟩ := hQ93
  have N93 := Fr.app N83 N93q
  refine own_go (fun t_ k_ => st93.trans k_) ?_
  show own_G p.tables e below T93 (mkF m 143 #[.val (.int p1), .val (.int p2), .val (.int (p1 &&& (255 : Int32))), .val (.int (((p1.toUInt32 >>> ((8 : Int32) &&& 31).toUInt32).toInt32) &&& (255 : Int32))), .val (.int (((p1.toUInt32 >>> ((16 : Int32) &&& 31).toUInt32).toInt32) &&& (255 : Int32))), .val (.int (p2 &&& (255 : Int32))), .val (.int (((p2.toUInt32 >>> ((8 : Int32) &&& 31).toUInt32).toInt32) &&& (255 : Int32))), .val (.int (((p2.toUInt32 >>> ((16 : Int32) &&& 31).toUInt32).toInt32) &&& (255 : Int32))), .val (.ref b1), .val (.ref b5), .val (.ref b13), .val (.ref b21), .unset, .unset] [(.int (own_run [(p1 &&& (255 : Int32)), (((p1.toUInt32 >>> ((8 : Int32) &&& 31).toUInt32).toInt32) &&& (255 : Int32)), (((p1.toUInt32 >>> ((16 : Int32) &&& 31).toUInt32).toInt32) &&& (255 : Int32))] ((-1 : Int32), (0 : Int32), (-1 : Int32))).1)]) _
  refine own_go (fun t_ k_ => XS.istore X93.here hx rfl (hb hby at_143) rfl (l' := #[.val (.int p1), .val (.int p2), .val (.int (p1 &&& (255 : Int32))), .val (.int (((p1.toUInt32 >>> ((8 : Int32) &&& 31).toUInt32).toInt32) &&& (255 : Int32))), .val (.int (((p1.toUInt32 >>> ((16 : Int32) &&& 31).toUInt32).toInt32) &&& (255 : Int32))), .val (.int (p2 &&& (255 : Int32))), .val (.int (((p2.toUInt32 >>> ((8 : Int32) &&& 31).toUInt32).toInt32) &&& (255 : Int32))), .val (.int (((p2.toUInt32 >>> ((16 : Int32) &&& 31).toUInt32).toInt32) &&& (255 : Int32))), .val (.ref b1), .val (.ref b5), .val (.ref b13), .val (.ref b21), .val (.int (own_run [(p1 &&& (255 : Int32)), (((p1.toUInt32 >>> ((8 : Int32) &&& 31).toUInt32).toInt32) &&& (255 : Int32)), (((p1.toUInt32 >>> ((16 : Int32) &&& 31).toUInt32).toInt32) &&& (255 : Int32))] ((-1 : Int32), (0 : Int32), (-1 : Int32))).1), .unset]) rfl k_) ?_
  show own_G p.tables e below T93 (mkF m 145 #[.val (.int p1), .val (.int p2), .val (.int (p1 &&& (255 : Int32))), .val (.int (((p1.toUInt32 >>> ((8 : Int32) &&& 31).toUInt32).toInt32) &&& (255 : Int32))), .val (.int (((p1.toUInt32 >>> ((16 : Int32) &&& 31).toUInt32).toInt32) &&& (255 : Int32))), .val (.int (p2 &&& (255 : Int32))), .val (.int (((p2.toUInt32 >>> ((8 : Int32) &&& 31).toUInt32).toInt32) &&& (255 : Int32))), .val (.int (((p2.toUInt32 >>> ((16 : Int32) &&& 31).toUInt32).toInt32) &&& (255 : Int32))), .val (.ref b1), .val (.ref b5), .val (.ref b13), .val (.ref b21), .val (.int (own_run [(p1 &&& (255 : Int32)), (((p1.toUInt32 >>> ((8 : Int32) &&& 31).toUInt32).toInt32) &&& (255 : Int32)), (((p1.toUInt32 >>> ((16 : Int32) &&& 31).toUInt32).toInt32) &&& (255 : Int32))] ((-1 : Int32), (0 : Int32), (-1 : Int32))).1), .unset] []) _
  refine own_go (fun t_ k_ => XS.aload X93.here hx rfl (hb hby at_145) rfl rfl k_) ?_
  show own_G p.tables e below T93 (mkF m 147 #[.val (.int p1), .val (.int p2), .val (.int (p1 &&& (255 : Int32))), .val (.int (((p1.toUInt32 >>> ((8 : Int32) &&& 31).toUInt32).toInt32) &&& (255 : Int32))), .val (.int (((p1.toUInt32 >>> ((16 : Int32) &&& 31).toUInt32).toInt32) &&& (255 : Int32))), .val (.int (p2 &&& (255 : Int32))), .val (.int (((p2.toUInt32 >>> ((8 : Int32) &&& 31).toUInt32).toInt32) &&& (255 : Int32))), .val (.int (((p2.toUInt32 >>> ((16 : Int32) &&& 31).toUInt32).toInt32) &&& (255 : Int32))), .val (.ref b1), .val (.ref b5), .val (.ref b13), .val (.ref b21), .val (.int (own_run [(p1 &&& (255 : Int32)), (((p1.toUInt32 >>> ((8 : Int32) &&& 31).toUInt32).toInt32) &&& (255 : Int32)), (((p1.toUInt32 >>> ((16 : Int32) &&& 31).toUInt32).toInt32) &&& (255 : Int32))] ((-1 : Int32), (0 : Int32), (-1 : Int32))).1), .unset] [(.ref b21)]) _
  refine own_go (fun t_ k_ => XS.aload X93.here hx rfl (hb hby at_147) rfl rfl k_) ?_
  show own_G p.tables e below T93 (mkF m 149 #[.val (.int p1), .val (.int p2), .val (.int (p1 &&& (255 : Int32))), .val (.int (((p1.toUInt32 >>> ((8 : Int32) &&& 31).toUInt32).toInt32) &&& (255 : Int32))), .val (.int (((p1.toUInt32 >>> ((16 : Int32) &&& 31).toUInt32).toInt32) &&& (255 : Int32))), .val (.int (p2 &&& (255 : Int32))), .val (.int (((p2.toUInt32 >>> ((8 : Int32) &&& 31).toUInt32).toInt32) &&& (255 : Int32))), .val (.int (((p2.toUInt32 >>> ((16 : Int32) &&& 31).toUInt32).toInt32) &&& (255 : Int32))), .val (.ref b1), .val (.ref b5), .val (.ref b13), .val (.ref b21), .val (.int (own_run [(p1 &&& (255 : Int32)), (((p1.toUInt32 >>> ((8 : Int32) &&& 31).toUInt32).toInt32) &&& (255 : Int32)), (((p1.toUInt32 >>> ((16 : Int32) &&& 31).toUInt32).toInt32) &&& (255 : Int32))] ((-1 : Int32), (0 : Int32), (-1 : Int32))).1), .unset] [(.ref b13), (.ref b21)]) _
  refine own_go (fun t_ k_ => XS.iconst X93.here hx rfl (hb hby at_149) k_) ?_
  show own_G p.tables e below T93 (mkF m 150 #[.val (.int p1), .val (.int p2), .val (.int (p1 &&& (255 : Int32))), .val (.int (((p1.toUInt32 >>> ((8 : Int32) &&& 31).toUInt32).toInt32) &&& (255 : Int32))), .val (.int (((p1.toUInt32 >>> ((16 : Int32) &&& 31).toUInt32).toInt32) &&& (255 : Int32))), .val (.int (p2 &&& (255 : Int32))), .val (.int (((p2.toUInt32 >>> ((8 : Int32) &&& 31).toUInt32).toInt32) &&& (255 : Int32))), .val (.int (((p2.toUInt32 >>> ((16 : Int32) &&& 31).toUInt32).toInt32) &&& (255 : Int32))), .val (.ref b1), .val (.ref b5), .val (.ref b13), .val (.ref b21), .val (.int (own_run [(p1 &&& (255 : Int32)), (((p1.toUInt32 >>> ((8 : Int32) &&& 31).toUInt32).toInt32) &&& (255 : Int32)), (((p1.toUInt32 >>> ((16 : Int32) &&& 31).toUInt32).toInt32) &&& (255 : Int32))] ((-1 : Int32), (0 : Int32), (-1 : Int32))).1), .unset] [(.int (0 : Int32)), (.ref b13), (.ref b21)]) _
  refine own_go (fun t_ k_ => XS.iconst X93.here hx rfl (hb hby at_150) k_) ?_
  show own_G p.tables e below T93 (mkF m 151 #[.val (.int p1), .val (.int p2), .val (.int (p1 &&& (255 : Int32))), .val (.int (((p1.toUInt32 >>> ((8 : Int32) &&& 31).toUInt32).toInt32) &&& (255 : Int32))), .val (.int (((p1.toUInt32 >>> ((16 : Int32) &&& 31).toUInt32).toInt32) &&& (255 : Int32))), .val (.int (p2 &&& (255 : Int32))), .val (.int (((p2.toUInt32 >>> ((8 : Int32) &&& 31).toUInt32).toInt32) &&& (255 : Int32))), .val (.int (((p2.toUInt32 >>> ((16 : Int32) &&& 31).toUInt32).toInt32) &&& (255 : Int32))), .val (.ref b1), .val (.ref b5), .val (.ref b13), .val (.ref b21), .val (.int (own_run [(p1 &&& (255 : Int32)), (((p1.toUInt32 >>> ((8 : Int32) &&& 31).toUInt32).toInt32) &&& (255 : Int32)), (((p1.toUInt32 >>> ((16 : Int32) &&& 31).toUInt32).toInt32) &&& (255 : Int32))] ((-1 : Int32), (0 : Int32), (-1 : Int32))).1), .unset] [(.int (1 : Int32)), (.int (0 : Int32)), (.ref b13), (.ref b21)]) _
  have f94 : n0 ≤ T93.heap.size := (Nat.le_trans f84 K93.1)
  have f95 : Sta Z T93.heap "com/example/einzug/einzug/rules/PermittedCharacters" "PERMITTED" "[Z" (.ref aP) := (own_sk f85 K93 (own_pl1 (own_pl f87)))
  have f96 : Arr Z T93.heap aP clP .boolean := (own_akn f86 K93 (fun q => ne23 (List.mem_singleton.mp q)))
  have f97 : Arv Z T93.heap aR40 kR40 .int (8 : Int32) [(.int (own_run [(p2 &&& (255 : Int32)), (((p2.toUInt32 >>> ((8 : Int32) &&& 31).toUInt32).toInt32) &&& (255 : Int32))] ((-1 : Int32), (0 : Int32), (-1 : Int32))).1), (.int (own_run [(p1 &&& (255 : Int32)), (((p1.toUInt32 >>> ((8 : Int32) &&& 31).toUInt32).toInt32) &&& (255 : Int32)), (((p1.toUInt32 >>> ((16 : Int32) &&& 31).toUInt32).toInt32) &&& (255 : Int32))] ((-1 : Int32), (0 : Int32), (-1 : Int32))).1), (.int (0 : Int32)), (.int (0 : Int32)), (.int (0 : Int32)), (.int (0 : Int32)), (.int (0 : Int32)), (.int (0 : Int32))] (.int (0 : Int32)) := (VR83.keep K93 (fun q => (Ne.symm m1R40) (List.mem_singleton.mp q)))
  have f98 : Arv Z T93.heap aS40 kS40 .boolean (8 : Int32) [(.int (own_run [(p2 &&& (255 : Int32)), (((p2.toUInt32 >>> ((8 : Int32) &&& 31).toUInt32).toInt32) &&& (255 : Int32))] ((-1 : Int32), (0 : Int32), (-1 : Int32))).2.1), (.int (own_run [(p1 &&& (255 : Int32)), (((p1.toUInt32 >>> ((8 : Int32) &&& 31).toUInt32).toInt32) &&& (255 : Int32)), (((p1.toUInt32 >>> ((16 : Int32) &&& 31).toUInt32).toInt32) &&& (255 : Int32))] ((-1 : Int32), (0 : Int32), (-1 : Int32))).2.1), (.int (0 : Int32)), (.int (0 : Int32)), (.int (0 : Int32)), (.int (0 : Int32)), (.int (0 : Int32)), (.int (0 : Int32))] (.int (0 : Int32)) := (VS83.keep K93 (fun q => (Ne.symm m1S40) (List.mem_singleton.mp q)))
  have f99 : Arv Z T93.heap aD40 kD40 .int (8 : Int32) [(.int (own_run [(p2 &&& (255 : Int32)), (((p2.toUInt32 >>> ((8 : Int32) &&& 31).toUInt32).toInt32) &&& (255 : Int32))] ((-1 : Int32), (0 : Int32), (-1 : Int32))).2.2), (.int (own_run [(p1 &&& (255 : Int32)), (((p1.toUInt32 >>> ((8 : Int32) &&& 31).toUInt32).toInt32) &&& (255 : Int32)), (((p1.toUInt32 >>> ((16 : Int32) &&& 31).toUInt32).toInt32) &&& (255 : Int32))] ((-1 : Int32), (0 : Int32), (-1 : Int32))).2.2), (.int (0 : Int32)), (.int (0 : Int32)), (.int (0 : Int32)), (.int (0 : Int32)), (.int (0 : Int32)), (.int (0 : Int32))] (.int (0 : Int32)) := (VD83.keep K93 (fun q => (Ne.symm m1D40) (List.mem_singleton.mp q)))
  have f100 : Arv Z T93.heap b13 k13 .char (1 : Int32) [(.int (((p2.toUInt32 >>> ((16 : Int32) &&& 31).toUInt32).toInt32) &&& (255 : Int32)))] (.int (0 : Int32)) := (f92.keep K93 (fun q => ne28 (List.mem_singleton.mp q)))
  obtain ⟨cq101, kq101, q101a, q101b, q101c⟩ := isOf hZ rfl Ex93
  obtain ⟨_, _, ⟨T101, L101, k101, n101⟩, -, X101, ⟨Lc101, hQ101, l101, y101, z101⟩, st101⟩ := X93.virtualBack hx (y := (⟨"com/example/einzug/einzug/core/TextCharacters", "characters", "([CII)V"⟩ : MethodName)) (z := (⟨"com/example/einzug/einzug/core/TextCharacters", "characters", "([CII)V"⟩ : MethodName)) hown (mvT hZ (hw _ (List.mem_of_getElem? (i := 25) rfl))) (mvT hZ (hw _ (List.mem_of_getElem? (i := 26) rfl))) (notFace_of_selects (args := #[]) (mvT hZ (hw _ (List.mem_of_getElem? (i := 28) rfl)))) (mvT hZ (hw _ (List.mem_of_getElem? (i := 28) rfl))) (mvT hZ (hw _ (List.mem_of_getElem? (i := 27) rfl))) (by decide) (backOf (W := 0) (rm4n1d1 l Z a0 hw [] b21 b13 aR40 aS40 aD40 kR40 kS40 kD40 (own_run [(p2 &&& (255 : Int32)), (((p2.toUInt32 >>> ((8 : Int32) &&& 31).toUInt32).toInt32) &&& (255 : Int32))] ((-1 : Int32), (0 : Int32), (-1 : Int32))).1 (own_run [(p1 &&& (255 : Int32)), (((p1.toUInt32 >>> ((8 : Int32) &&& 31).toUInt32).toInt32) &&& (255 : Int32)), (((p1.toUInt32 >>> ((16 : Int32) &&& 31).toUInt32).toInt32) &&& (255 : Int32))] ((-1 : Int32), (0 : Int32), (-1 : Int32))).1 (own_run [(p2 &&& (255 : Int32)), (((p2.toUInt32 >>> ((8 : Int32) &&& 31).toUInt32).toInt32) &&& (255 : Int32))] ((-1 : Int32), (0 : Int32), (-1 : Int32))).2.1 (own_run [(p1 &&& (255 : Int32)), (((p1.toUInt32 >>> ((8 : Int32) &&& 31).toUInt32).toInt32) &&& (255 : Int32)), (((p1.toUInt32 >>> ((16 : Int32) &&& 31).toUInt32).toInt32) &&& (255 : Int32))] ((-1 : Int32), (0 : Int32), (-1 : Int32))).2.1 (own_run [(p2 &&& (255 : Int32)), (((p2.toUInt32 >>> ((8 : Int32) &&& 31).toUInt32).toInt32) &&& (255 : Int32))] ((-1 : Int32), (0 : Int32), (-1 : Int32))).2.2 (own_run [(p1 &&& (255 : Int32)), (((p1.toUInt32 >>> ((8 : Int32) &&& 31).toUInt32).toInt32) &&& (255 : Int32)), (((p1.toUInt32 >>> ((16 : Int32) &&& 31).toUInt32).toInt32) &&& (255 : Int32))] ((-1 : Int32), (0 : Int32), (-1 : Int32))).2.2 k13 (((p2.toUInt32 >>> ((16 : Int32) &&& 31).toUInt32).toInt32) &&& (255 : Int32)) aP clP T93.heap n0 f94 f95 f96 sz_P tab_P Ex93 Fd93 FR93 (Fo93 "started" "[Z" _ (by decide) f90 (slot_ne (Or.inl (hw _ (List.mem_of_getElem? (i := 15) rfl))) (Or.inl (hw _ (List.mem_of_getElem? (i := 24) rfl))) (by decide) (t := (.array .boolean)) (t' := .int) (by decide) (by decide))) (Fo93 "pending" "[I" _ (by decide) f91 (slot_ne (Or.inl (hw _ (List.mem_of_getElem? (i := 17) rfl))) (Or.inl (hw _ (List.mem_of_getElem? (i := 24) rfl))) (by decide) (t := (.array .int)) (t' := .int) (by decide) (by decide))) f97 f98 f99 nRS40 nRD40 nSD40 m1R40 m1S40 m1D40 gR40 gS40 gD40 f100 (own_run_st _ (Or.inl rfl)) (own_m255 _)) hZ (hw _ (List.mem_of_getElem? (i := 29) rfl)) (hw _ (List.mem_of_getElem? (i := 3) rfl)) (by decide) (by decide)) q101a q101c (g := (mkF m 151 #[.val (.int p1), .val (.int p2), .val (.int (p1 &&& (255 : Int32))), .val (.int (((p1.toUInt32 >>> ((8 : Int32) &&& 31).toUInt32).toInt32) &&& (255 : Int32))), .val (.int (((p1.toUInt32 >>> ((16 : Int32) &&& 31).toUInt32).toInt32) &&& (255 : Int32))), .val (.int (p2 &&& (255 : Int32))), .val (.int (((p2.toUInt32 >>> ((8 : Int32) &&& 31).toUInt32).toInt32) &&& (255 : Int32))), .val (.int (((p2.toUInt32 >>> ((16 : Int32) &&& 31).toUInt32).toInt32) &&& (255 : Int32))), .val (.ref b1), .val (.ref b5), .val (.ref b13), .val (.ref b21), .val (.int (own_run [(p1 &&& (255 : Int32)), (((p1.toUInt32 >>> ((8 : Int32) &&& 31).toUInt32).toInt32) &&& (255 : Int32)), (((p1.toUInt32 >>> ((16 : Int32) &&& 31).toUInt32).toInt32) &&& (255 : Int32))] ((-1 : Int32), (0 : Int32), (-1 : Int32))).1), .unset] [(.int (1 : Int32)), (.int (0 : Int32)), (.ref b13), (.ref b21)])) rfl (by rw [hml]; rfl) (Steps.refl _) (argsL := [(.ref b13), (.int (0 : Int32)), (.int (1 : Int32))]) (rest := []) (lenOf own_pd5 rfl) rfl (by show 2 * 0 + _ ≤ _; exact Nat.le_of_eq rfl) (hb hby at_151) (fun _ _ => ⟨rfl, rfl, (by decide : 7 + 0 ≤ _), (by decide : 34 + 0 ≤ _)⟩)
  dsimp only [Pt.U, Pt.locs, Pt.cells, Pt.slots] at X101 l101 y101 z101 st101 hQ101
  subst l101 y101 z101
  obtain ⟨rfl, N101q, K101, VR101, VS101, VD101⟩ := hQ101
  have N101 := Fr.app N93 N101q
  refine own_go (fun t_ k_ => st101.trans k_) ?_
  show own_G p.tables e below T101 (mkF m 154 #[.val (.int p1), .val (.int p2), .val (.int (p1 &&& (255 : Int32))), .val (.int (((p1.toUInt32 >>> ((8 : Int32) &&& 31).toUInt32).toInt32) &&& (255 : Int32))), .val (.int (((p1.toUInt32 >>> ((16 : Int32) &&& 31).toUInt32).toInt32) &&& (255 : Int32))), .val (.int (p2 &&& (255 : Int32))), .val (.int (((p2.toUInt32 >>> ((8 : Int32) &&& 31).toUInt32).toInt32) &&& (255 : Int32))), .val (.int (((p2.toUInt32 >>> ((16 : Int32) &&& 31).toUInt32).toInt32) &&& (255 : Int32))), .val (.ref b1), .val (.ref b5), .val (.ref b13), .val (.ref b21), .val (.int (own_run [(p1 &&& (255 : Int32)), (((p1.toUInt32 >>> ((8 : Int32) &&& 31).toUInt32).toInt32) &&& (255 : Int32)), (((p1.toUInt32 >>> ((16 : Int32) &&& 31).toUInt32).toInt32) &&& (255 : Int32))] ((-1 : Int32), (0 : Int32), (-1 : Int32))).1), .unset] []) _
  refine own_go (fun t_ k_ => XS.aload X101.here hx rfl (hb hby at_154) rfl rfl k_) ?_
  show own_G p.tables e below T101 (mkF m 156 #[.val (.int p1), .val (.int p2), .val (.int (p1 &&& (255 : Int32))), .val (.int (((p1.toUInt32 >>> ((8 : Int32) &&& 31).toUInt32).toInt32) &&& (255 : Int32))), .val (.int (((p1.toUInt32 >>> ((16 : Int32) &&& 31).toUInt32).toInt32) &&& (255 : Int32))), .val (.int (p2 &&& (255 : Int32))), .val (.int (((p2.toUInt32 >>> ((8 : Int32) &&& 31).toUInt32).toInt32) &&& (255 : Int32))), .val (.int (((p2.toUInt32 >>> ((16 : Int32) &&& 31).toUInt32).toInt32) &&& (255 : Int32))), .val (.ref b1), .val (.ref b5), .val (.ref b13), .val (.ref b21), .val (.int (own_run [(p1 &&& (255 : Int32)), (((p1.toUInt32 >>> ((8 : Int32) &&& 31).toUInt32).toInt32) &&& (255 : Int32)), (((p1.toUInt32 >>> ((16 : Int32) &&& 31).toUInt32).toInt32) &&& (255 : Int32))] ((-1 : Int32), (0 : Int32), (-1 : Int32))).1), .unset] [(.ref b21)]) _
  have f102 : n0 ≤ T101.heap.size := (Nat.le_trans f94 K101.1)
  have f103 : Sta Z T101.heap "com/example/einzug/einzug/rules/PermittedCharacters" "PERMITTED" "[Z" (.ref aP) := (own_sk f95 K101 (allS (P := fun x => ∀ c : Cell, T93.heap[x]? = some c → c.vm.isStatics = false) (own_plv f97) (allS (P := fun x => ∀ c : Cell, T93.heap[x]? = some c → c.vm.isStatics = false) (own_plv f98) (allS (P := fun x => ∀ c : Cell, T93.heap[x]? = some c → c.vm.isStatics = false) (own_plv f99) all0))))
  have f104 : Arr Z T101.heap aP clP .boolean := (own_akn f96 K101 (by simp only [List.mem_cons, List.not_mem_nil, or_false, not_or]; exact ⟨ne41, ne45, ne49⟩))
  have f105 : Exa Z T101.heap b21 "com/example/einzug/einzug/core/TextCharacters" := (Ex93.keep K101)
  have f106 : Fld Z T101.heap b21 "com/example/einzug/einzug/core/TextCharacters" "depth" "I" (.int (1 : Int32)) := (Fd93.keep K101 (by simp only [List.mem_cons, List.not_mem_nil, or_false, not_or]; exact ⟨m1R40, m1S40, m1D40⟩))
  have f107 : Fld Z T101.heap b21 "com/example/einzug/einzug/core/TextCharacters" "refused" "[I" (.ref aR40) := (FR93.keep K101 (by simp only [List.mem_cons, List.not_mem_nil, or_false, not_or]; exact ⟨m1R40, m1S40, m1D40⟩))
  have f108 : Fld Z T101.heap b21 "com/example/einzug/einzug/core/TextCharacters" "started" "[Z" (.ref aS40) := ((Fo93 "started" "[Z" _ (by decide) f90 (slot_ne (Or.inl (hw _ (List.mem_of_getElem? (i := 15) rfl))) (Or.inl (hw _ (List.mem_of_getElem? (i := 24) rfl))) (by decide) (t := (.array .boolean)) (t' := .int) (by decide) (by decide))).keep K101 (by simp only [List.mem_cons, List.not_mem_nil, or_false, not_or]; exact ⟨m1R40, m1S40, m1D40⟩))
  have f109 : Fld Z T101.heap b21 "com/example/einzug/einzug/core/TextCharacters" "pending" "[I" (.ref aD40) := ((Fo93 "pending" "[I" _ (by decide) f91 (slot_ne (Or.inl (hw _ (List.mem_of_getElem? (i := 17) rfl))) (Or.inl (hw _ (List.mem_of_getElem? (i := 24) rfl))) (by decide) (t := (.array .int)) (t' := .int) (by decide) (by decide))).keep K101 (by simp only [List.mem_cons, List.not_mem_nil, or_false, not_or]; exact ⟨m1R40, m1S40, m1D40⟩))
  obtain ⟨cq110, kq110, q110a, q110b, q110c⟩ := isOf hZ rfl f105
  obtain ⟨_, _, ⟨T110, L110, k110, n110⟩, -, X110, ⟨Lc110, hQ110, l110, y110, z110⟩, st110⟩ := X101.virtualBack hx (y := (⟨"com/example/einzug/einzug/core/TextCharacters", "close", "()I"⟩ : MethodName)) (z := (⟨"com/example/einzug/einzug/core/TextCharacters", "close", "()I"⟩ : MethodName)) hown (mvT hZ (hw _ (List.mem_of_getElem? (i := 55) rfl))) (mvT hZ (hw _ (List.mem_of_getElem? (i := 56) rfl))) (notFace_of_selects (args := #[]) (mvT hZ (hw _ (List.mem_of_getElem? (i := 58) rfl)))) (mvT hZ (hw _ (List.mem_of_getElem? (i := 58) rfl))) (mvT hZ (hw _ (List.mem_of_getElem? (i := 57) rfl))) (by decide) (backOf (W := 0) (rm11d1 l Z a0 hw [] b21 aR40 kR40 (own_run [(((p2.toUInt32 >>> ((16 : Int32) &&& 31).toUInt32).toInt32) &&& (255 : Int32))] ((own_run [(p2 &&& (255 : Int32)), (((p2.toUInt32 >>> ((8 : Int32) &&& 31).toUInt32).toInt32) &&& (255 : Int32))] ((-1 : Int32), (0 : Int32), (-1 : Int32))).1, (own_run [(p2 &&& (255 : Int32)), (((p2.toUInt32 >>> ((8 : Int32) &&& 31).toUInt32).toInt32) &&& (255 : Int32))] ((-1 : Int32), (0 : Int32), (-1 : Int32))).2.1, (own_run [(p2 &&& (255 : Int32)), (((p2.toUInt32 >>> ((8 : Int32) &&& 31).toUInt32).toInt32) &&& (255 : Int32))] ((-1 : Int32), (0 : Int32), (-1 : Int32))).2.2)).1 (own_run [(p1 &&& (255 : Int32)), (((p1.toUInt32 >>> ((8 : Int32) &&& 31).toUInt32).toInt32) &&& (255 : Int32)), (((p1.toUInt32 >>> ((16 : Int32) &&& 31).toUInt32).toInt32) &&& (255 : Int32))] ((-1 : Int32), (0 : Int32), (-1 : Int32))).1 T101.heap n0 f102 ge_b21 f105 f106 f107 VR101 m1R40) hZ (hw _ (List.mem_of_getElem? (i := 59) rfl)) (hw _ (List.mem_of_getElem? (i := 3) rfl)) (by decide) (by decide)) q110a q110c (g := (mkF m 156 #[.val (.int p1), .val (.int p2), .val (.int (p1 &&& (255 : Int32))), .val (.int (((p1.toUInt32 >>> ((8 : Int32) &&& 31).toUInt32).toInt32) &&& (255 : Int32))), .val (.int (((p1.toUInt32 >>> ((16 : Int32) &&& 31).toUInt32).toInt32) &&& (255 : Int32))), .val (.int (p2 &&& (255 : Int32))), .val (.int (((p2.toUInt32 >>> ((8 : Int32) &&& 31).toUInt32).toInt32) &&& (255 : Int32))), .val (.int (((p2.toUInt32 >>> ((16 : Int32) &&& 31).toUInt32).toInt32) &&& (255 : Int32))), .val (.ref b1), .val (.ref b5), .val (.ref b13), .val (.ref b21), .val (.int (own_run [(p1 &&& (255 : Int32)), (((p1.toUInt32 >>> ((8 : Int32) &&& 31).toUInt32).toInt32) &&& (255 : Int32)), (((p1.toUInt32 >>> ((16 : Int32) &&& 31).toUInt32).toInt32) &&& (255 : Int32))] ((-1 : Int32), (0 : Int32), (-1 : Int32))).1), .unset] [(.ref b21)])) rfl (by rw [hml]; rfl) (Steps.refl _) (argsL := []) (rest := []) (lenOf own_pd6 rfl) rfl (by show 2 * 0 + _ ≤ _; exact Nat.le_of_eq rfl) (hb hby at_156) (fun _ _ => ⟨rfl, rfl, (by decide : 7 + 0 ≤ _), (by decide : 34 + 0 ≤ _)⟩)
  dsimp only [Pt.U, Pt.locs, Pt.cells, Pt.slots] at X110 l110 y110 z110 st110 hQ110
  subst l110 y110 z110
  obtain ⟨rfl, N110q, K110, Ex110, Fd110, FR110, Fo110⟩ := hQ110
  have N110 := Fr.app N101 N110q
  refine own_go (fun t_ k_ => st110.trans k_) ?_
  show own_G p.tables e below T110 (mkF m 159 #[.val (.int p1), .val (.int p2), .val (.int (p1 &&& (255 : Int32))), .val (.int (((p1.toUInt32 >>> ((8 : Int32) &&& 31).toUInt32).toInt32) &&& (255 : Int32))), .val (.int (((p1.toUInt32 >>> ((16 : Int32) &&& 31).toUInt32).toInt32) &&& (255 : Int32))), .val (.int (p2 &&& (255 : Int32))), .val (.int (((p2.toUInt32 >>> ((8 : Int32) &&& 31).toUInt32).toInt32) &&& (255 : Int32))), .val (.int (((p2.toUInt32 >>> ((16 : Int32) &&& 31).toUInt32).toInt32) &&& (255 : Int32))), .val (.ref b1), .val (.ref b5), .val (.ref b13), .val (.ref b21), .val (.int (own_run [(p1 &&& (255 : Int32)), (((p1.toUInt32 >>> ((8 : Int32) &&& 31).toUInt32).toInt32) &&& (255 : Int32)), (((p1.toUInt32 >>> ((16 : Int32) &&& 31).toUInt32).toInt32) &&& (255 : Int32))] ((-1 : Int32), (0 : Int32), (-1 : Int32))).1), .unset] [(.int (own_run [(((p2.toUInt32 >>> ((16 : Int32) &&& 31).toUInt32).toInt32) &&& (255 : Int32))] ((own_run [(p2 &&& (255 : Int32)), (((p2.toUInt32 >>> ((8 : Int32) &&& 31).toUInt32).toInt32) &&& (255 : Int32))] ((-1 : Int32), (0 : Int32), (-1 : Int32))).1, (own_run [(p2 &&& (255 : Int32)), (((p2.toUInt32 >>> ((8 : Int32) &&& 31).toUInt32).toInt32) &&& (255 : Int32))] ((-1 : Int32), (0 : Int32), (-1 : Int32))).2.1, (own_run [(p2 &&& (255 : Int32)), (((p2.toUInt32 >>> ((8 : Int32) &&& 31).toUInt32).toInt32) &&& (255 : Int32))] ((-1 : Int32), (0 : Int32), (-1 : Int32))).2.2)).1)]) _
  refine own_go (fun t_ k_ => XS.istore X110.here hx rfl (hb hby at_159) rfl (l' := #[.val (.int p1), .val (.int p2), .val (.int (p1 &&& (255 : Int32))), .val (.int (((p1.toUInt32 >>> ((8 : Int32) &&& 31).toUInt32).toInt32) &&& (255 : Int32))), .val (.int (((p1.toUInt32 >>> ((16 : Int32) &&& 31).toUInt32).toInt32) &&& (255 : Int32))), .val (.int (p2 &&& (255 : Int32))), .val (.int (((p2.toUInt32 >>> ((8 : Int32) &&& 31).toUInt32).toInt32) &&& (255 : Int32))), .val (.int (((p2.toUInt32 >>> ((16 : Int32) &&& 31).toUInt32).toInt32) &&& (255 : Int32))), .val (.ref b1), .val (.ref b5), .val (.ref b13), .val (.ref b21), .val (.int (own_run [(p1 &&& (255 : Int32)), (((p1.toUInt32 >>> ((8 : Int32) &&& 31).toUInt32).toInt32) &&& (255 : Int32)), (((p1.toUInt32 >>> ((16 : Int32) &&& 31).toUInt32).toInt32) &&& (255 : Int32))] ((-1 : Int32), (0 : Int32), (-1 : Int32))).1), .val (.int (own_run [(((p2.toUInt32 >>> ((16 : Int32) &&& 31).toUInt32).toInt32) &&& (255 : Int32))] ((own_run [(p2 &&& (255 : Int32)), (((p2.toUInt32 >>> ((8 : Int32) &&& 31).toUInt32).toInt32) &&& (255 : Int32))] ((-1 : Int32), (0 : Int32), (-1 : Int32))).1, (own_run [(p2 &&& (255 : Int32)), (((p2.toUInt32 >>> ((8 : Int32) &&& 31).toUInt32).toInt32) &&& (255 : Int32))] ((-1 : Int32), (0 : Int32), (-1 : Int32))).2.1, (own_run [(p2 &&& (255 : Int32)), (((p2.toUInt32 >>> ((8 : Int32) &&& 31).toUInt32).toInt32) &&& (255 : Int32))] ((-1 : Int32), (0 : Int32), (-1 : Int32))).2.2)).1)]) rfl k_) ?_
  show own_G p.tables e below T110 (mkF m 161 #[.val (.int p1), .val (.int p2), .val (.int (p1 &&& (255 : Int32))), .val (.int (((p1.toUInt32 >>> ((8 : Int32) &&& 31).toUInt32).toInt32) &&& (255 : Int32))), .val (.int (((p1.toUInt32 >>> ((16 : Int32) &&& 31).toUInt32).toInt32) &&& (255 : Int32))), .val (.int (p2 &&& (255 : Int32))), .val (.int (((p2.toUInt32 >>> ((8 : Int32) &&& 31).toUInt32).toInt32) &&& (255 : Int32))), .val (.int (((p2.toUInt32 >>> ((16 : Int32) &&& 31).toUInt32).toInt32) &&& (255 : Int32))), .val (.ref b1), .val (.ref b5), .val (.ref b13), .val (.ref b21), .val (.int (own_run [(p1 &&& (255 : Int32)), (((p1.toUInt32 >>> ((8 : Int32) &&& 31).toUInt32).toInt32) &&& (255 : Int32)), (((p1.toUInt32 >>> ((16 : Int32) &&& 31).toUInt32).toInt32) &&& (255 : Int32))] ((-1 : Int32), (0 : Int32), (-1 : Int32))).1), .val (.int (own_run [(((p2.toUInt32 >>> ((16 : Int32) &&& 31).toUInt32).toInt32) &&& (255 : Int32))] ((own_run [(p2 &&& (255 : Int32)), (((p2.toUInt32 >>> ((8 : Int32) &&& 31).toUInt32).toInt32) &&& (255 : Int32))] ((-1 : Int32), (0 : Int32), (-1 : Int32))).1, (own_run [(p2 &&& (255 : Int32)), (((p2.toUInt32 >>> ((8 : Int32) &&& 31).toUInt32).toInt32) &&& (255 : Int32))] ((-1 : Int32), (0 : Int32), (-1 : Int32))).2.1, (own_run [(p2 &&& (255 : Int32)), (((p2.toUInt32 >>> ((8 : Int32) &&& 31).toUInt32).toInt32) &&& (255 : Int32))] ((-1 : Int32), (0 : Int32), (-1 : Int32))).2.2)).1)] []) _
  refine own_go (fun t_ k_ => XS.iload X110.here hx rfl (hb hby at_161) rfl k_) ?_
  show own_G p.tables e below T110 (mkF m 163 #[.val (.int p1), .val (.int p2), .val (.int (p1 &&& (255 : Int32))), .val (.int (((p1.toUInt32 >>> ((8 : Int32) &&& 31).toUInt32).toInt32) &&& (255 : Int32))), .val (.int (((p1.toUInt32 >>> ((16 : Int32) &&& 31).toUInt32).toInt32) &&& (255 : Int32))), .val (.int (p2 &&& (255 : Int32))), .val (.int (((p2.toUInt32 >>> ((8 : Int32) &&& 31).toUInt32).toInt32) &&& (255 : Int32))), .val (.int (((p2.toUInt32 >>> ((16 : Int32) &&& 31).toUInt32).toInt32) &&& (255 : Int32))), .val (.ref b1), .val (.ref b5), .val (.ref b13), .val (.ref b21), .val (.int (own_run [(p1 &&& (255 : Int32)), (((p1.toUInt32 >>> ((8 : Int32) &&& 31).toUInt32).toInt32) &&& (255 : Int32)), (((p1.toUInt32 >>> ((16 : Int32) &&& 31).toUInt32).toInt32) &&& (255 : Int32))] ((-1 : Int32), (0 : Int32), (-1 : Int32))).1), .val (.int (own_run [(((p2.toUInt32 >>> ((16 : Int32) &&& 31).toUInt32).toInt32) &&& (255 : Int32))] ((own_run [(p2 &&& (255 : Int32)), (((p2.toUInt32 >>> ((8 : Int32) &&& 31).toUInt32).toInt32) &&& (255 : Int32))] ((-1 : Int32), (0 : Int32), (-1 : Int32))).1, (own_run [(p2 &&& (255 : Int32)), (((p2.toUInt32 >>> ((8 : Int32) &&& 31).toUInt32).toInt32) &&& (255 : Int32))] ((-1 : Int32), (0 : Int32), (-1 : Int32))).2.1, (own_run [(p2 &&& (255 : Int32)), (((p2.toUInt32 >>> ((8 : Int32) &&& 31).toUInt32).toInt32) &&& (255 : Int32))] ((-1 : Int32), (0 : Int32), (-1 : Int32))).2.2)).1)] [(.int (own_run [(p1 &&& (255 : Int32)), (((p1.toUInt32 >>> ((8 : Int32) &&& 31).toUInt32).toInt32) &&& (255 : Int32)), (((p1.toUInt32 >>> ((16 : Int32) &&& 31).toUInt32).toInt32) &&& (255 : Int32))] ((-1 : Int32), (0 : Int32), (-1 : Int32))).1)]) _
  refine own_go (fun t_ k_ => XS.iloadN X110.here hx rfl (hb hby at_163) rfl k_) ?_
  show own_G p.tables e below T110 (mkF m 164 #[.val (.int p1), .val (.int p2), .val (.int (p1 &&& (255 : Int32))), .val (.int (((p1.toUInt32 >>> ((8 : Int32) &&& 31).toUInt32).toInt32) &&& (255 : Int32))), .val (.int (((p1.toUInt32 >>> ((16 : Int32) &&& 31).toUInt32).toInt32) &&& (255 : Int32))), .val (.int (p2 &&& (255 : Int32))), .val (.int (((p2.toUInt32 >>> ((8 : Int32) &&& 31).toUInt32).toInt32) &&& (255 : Int32))), .val (.int (((p2.toUInt32 >>> ((16 : Int32) &&& 31).toUInt32).toInt32) &&& (255 : Int32))), .val (.ref b1), .val (.ref b5), .val (.ref b13), .val (.ref b21), .val (.int (own_run [(p1 &&& (255 : Int32)), (((p1.toUInt32 >>> ((8 : Int32) &&& 31).toUInt32).toInt32) &&& (255 : Int32)), (((p1.toUInt32 >>> ((16 : Int32) &&& 31).toUInt32).toInt32) &&& (255 : Int32))] ((-1 : Int32), (0 : Int32), (-1 : Int32))).1), .val (.int (own_run [(((p2.toUInt32 >>> ((16 : Int32) &&& 31).toUInt32).toInt32) &&& (255 : Int32))] ((own_run [(p2 &&& (255 : Int32)), (((p2.toUInt32 >>> ((8 : Int32) &&& 31).toUInt32).toInt32) &&& (255 : Int32))] ((-1 : Int32), (0 : Int32), (-1 : Int32))).1, (own_run [(p2 &&& (255 : Int32)), (((p2.toUInt32 >>> ((8 : Int32) &&& 31).toUInt32).toInt32) &&& (255 : Int32))] ((-1 : Int32), (0 : Int32), (-1 : Int32))).2.1, (own_run [(p2 &&& (255 : Int32)), (((p2.toUInt32 >>> ((8 : Int32) &&& 31).toUInt32).toInt32) &&& (255 : Int32))] ((-1 : Int32), (0 : Int32), (-1 : Int32))).2.2)).1)] [(.int (p1 &&& (255 : Int32))), (.int (own_run [(p1 &&& (255 : Int32)), (((p1.toUInt32 >>> ((8 : Int32) &&& 31).toUInt32).toInt32) &&& (255 : Int32)), (((p1.toUInt32 >>> ((16 : Int32) &&& 31).toUInt32).toInt32) &&& (255 : Int32))] ((-1 : Int32), (0 : Int32), (-1 : Int32))).1)]) _
  refine own_go (fun t_ k_ => XS.iloadN X110.here hx rfl (hb hby at_164) rfl k_) ?_
  show own_G p.tables e below T110 (mkF m 165 #[.val (.int p1), .val (.int p2), .val (.int (p1 &&& (255 : Int32))), .val (.int (((p1.toUInt32 >>> ((8 : Int32) &&& 31).toUInt32).toInt32) &&& (255 : Int32))), .val (.int (((p1.toUInt32 >>> ((16 : Int32) &&& 31).toUInt32).toInt32) &&& (255 : Int32))), .val (.int (p2 &&& (255 : Int32))), .val (.int (((p2.toUInt32 >>> ((8 : Int32) &&& 31).toUInt32).toInt32) &&& (255 : Int32))), .val (.int (((p2.toUInt32 >>> ((16 : Int32) &&& 31).toUInt32).toInt32) &&& (255 : Int32))), .val (.ref b1), .val (.ref b5), .val (.ref b13), .val (.ref b21), .val (.int (own_run [(p1 &&& (255 : Int32)), (((p1.toUInt32 >>> ((8 : Int32) &&& 31).toUInt32).toInt32) &&& (255 : Int32)), (((p1.toUInt32 >>> ((16 : Int32) &&& 31).toUInt32).toInt32) &&& (255 : Int32))] ((-1 : Int32), (0 : Int32), (-1 : Int32))).1), .val (.int (own_run [(((p2.toUInt32 >>> ((16 : Int32) &&& 31).toUInt32).toInt32) &&& (255 : Int32))] ((own_run [(p2 &&& (255 : Int32)), (((p2.toUInt32 >>> ((8 : Int32) &&& 31).toUInt32).toInt32) &&& (255 : Int32))] ((-1 : Int32), (0 : Int32), (-1 : Int32))).1, (own_run [(p2 &&& (255 : Int32)), (((p2.toUInt32 >>> ((8 : Int32) &&& 31).toUInt32).toInt32) &&& (255 : Int32))] ((-1 : Int32), (0 : Int32), (-1 : Int32))).2.1, (own_run [(p2 &&& (255 : Int32)), (((p2.toUInt32 >>> ((8 : Int32) &&& 31).toUInt32).toInt32) &&& (255 : Int32))] ((-1 : Int32), (0 : Int32), (-1 : Int32))).2.2)).1)] [(.int (((p1.toUInt32 >>> ((8 : Int32) &&& 31).toUInt32).toInt32) &&& (255 : Int32))), (.int (p1 &&& (255 : Int32))), (.int (own_run [(p1 &&& (255 : Int32)), (((p1.toUInt32 >>> ((8 : Int32) &&& 31).toUInt32).toInt32) &&& (255 : Int32)), (((p1.toUInt32 >>> ((16 : Int32) &&& 31).toUInt32).toInt32) &&& (255 : Int32))] ((-1 : Int32), (0 : Int32), (-1 : Int32))).1)]) _
  refine own_go (fun t_ k_ => XS.iload X110.here hx rfl (hb hby at_165) rfl k_) ?_
  show own_G p.tables e below T110 (mkF m 167 #[.val (.int p1), .val (.int p2), .val (.int (p1 &&& (255 : Int32))), .val (.int (((p1.toUInt32 >>> ((8 : Int32) &&& 31).toUInt32).toInt32) &&& (255 : Int32))), .val (.int (((p1.toUInt32 >>> ((16 : Int32) &&& 31).toUInt32).toInt32) &&& (255 : Int32))), .val (.int (p2 &&& (255 : Int32))), .val (.int (((p2.toUInt32 >>> ((8 : Int32) &&& 31).toUInt32).toInt32) &&& (255 : Int32))), .val (.int (((p2.toUInt32 >>> ((16 : Int32) &&& 31).toUInt32).toInt32) &&& (255 : Int32))), .val (.ref b1), .val (.ref b5), .val (.ref b13), .val (.ref b21), .val (.int (own_run [(p1 &&& (255 : Int32)), (((p1.toUInt32 >>> ((8 : Int32) &&& 31).toUInt32).toInt32) &&& (255 : Int32)), (((p1.toUInt32 >>> ((16 : Int32) &&& 31).toUInt32).toInt32) &&& (255 : Int32))] ((-1 : Int32), (0 : Int32), (-1 : Int32))).1), .val (.int (own_run [(((p2.toUInt32 >>> ((16 : Int32) &&& 31).toUInt32).toInt32) &&& (255 : Int32))] ((own_run [(p2 &&& (255 : Int32)), (((p2.toUInt32 >>> ((8 : Int32) &&& 31).toUInt32).toInt32) &&& (255 : Int32))] ((-1 : Int32), (0 : Int32), (-1 : Int32))).1, (own_run [(p2 &&& (255 : Int32)), (((p2.toUInt32 >>> ((8 : Int32) &&& 31).toUInt32).toInt32) &&& (255 : Int32))] ((-1 : Int32), (0 : Int32), (-1 : Int32))).2.1, (own_run [(p2 &&& (255 : Int32)), (((p2.toUInt32 >>> ((8 : Int32) &&& 31).toUInt32).toInt32) &&& (255 : Int32))] ((-1 : Int32), (0 : Int32), (-1 : Int32))).2.2)).1)] [(.int (((p1.toUInt32 >>> ((16 : Int32) &&& 31).toUInt32).toInt32) &&& (255 : Int32))), (.int (((p1.toUInt32 >>> ((8 : Int32) &&& 31).toUInt32).toInt32) &&& (255 : Int32))), (.int (p1 &&& (255 : Int32))), (.int (own_run [(p1 &&& (255 : Int32)), (((p1.toUInt32 >>> ((8 : Int32) &&& 31).toUInt32).toInt32) &&& (255 : Int32)), (((p1.toUInt32 >>> ((16 : Int32) &&& 31).toUInt32).toInt32) &&& (255 : Int32))] ((-1 : Int32), (0 : Int32), (-1 : Int32))).1)]) _
  have f111 : n0 ≤ T110.heap.size := (Nat.le_trans f102 K110.1)
  have f112 : Sta Z T110.heap "com/example/einzug/einzug/rules/PermittedCharacters" "PERMITTED" "[Z" (.ref aP) := (own_sk f103 K110 (own_pl1 (own_pl f105)))
  have f113 : Arr Z T110.heap aP clP .boolean := (own_akn f104 K110 (fun q => ne23 (List.mem_singleton.mp q)))
  obtain ⟨_, _, ⟨T114, L114, k114, n114⟩, -, X114, ⟨Lc114, hQ114, l114, y114, z114⟩, st114⟩ := Jvm.LawKit.callS X110 hx (y := (⟨"com/example/einzug/einzug/core/TextCharactersClosePinLaw", "ref3", "(III)I"⟩ : MethodName)) hown (mvT hZ (hw _ (List.mem_of_getElem? (i := 60) rfl))) (mvT hZ (hw _ (List.mem_of_getElem? (i := 61) rfl))) (mvT hZ (hw _ (List.mem_of_getElem? (i := 62) rfl))) (mvT hZ (hw _ (List.mem_of_getElem? (i := 63) rfl))) (by decide) (backOf (W := 1) (rm12 l Z a0 hw [] (p1 &&& (255 : Int32)) (((p1.toUInt32 >>> ((8 : Int32) &&& 31).toUInt32).toInt32) &&& (255 : Int32)) (((p1.toUInt32 >>> ((16 : Int32) &&& 31).toUInt32).toInt32) &&& (255 : Int32)) aP clP T110.heap n0 f111 f112 f113 sz_P tab_P) hZ (hw _ (List.mem_of_getElem? (i := 63) rfl)) (hw _ (List.mem_of_getElem? (i := 62) rfl)) (by decide) (by decide)) (g := (mkF m 167 #[.val (.int p1), .val (.int p2), .val (.int (p1 &&& (255 : Int32))), .val (.int (((p1.toUInt32 >>> ((8 : Int32) &&& 31).toUInt32).toInt32) &&& (255 : Int32))), .val (.int (((p1.toUInt32 >>> ((16 : Int32) &&& 31).toUInt32).toInt32) &&& (255 : Int32))), .val (.int (p2 &&& (255 : Int32))), .val (.int (((p2.toUInt32 >>> ((8 : Int32) &&& 31).toUInt32).toInt32) &&& (255 : Int32))), .val (.int (((p2.toUInt32 >>> ((16 : Int32) &&& 31).toUInt32).toInt32) &&& (255 : Int32))), .val (.ref b1), .val (.ref b5), .val (.ref b13), .val (.ref b21), .val (.int (own_run [(p1 &&& (255 : Int32)), (((p1.toUInt32 >>> ((8 : Int32) &&& 31).toUInt32).toInt32) &&& (255 : Int32)), (((p1.toUInt32 >>> ((16 : Int32) &&& 31).toUInt32).toInt32) &&& (255 : Int32))] ((-1 : Int32), (0 : Int32), (-1 : Int32))).1), .val (.int (own_run [(((p2.toUInt32 >>> ((16 : Int32) &&& 31).toUInt32).toInt32) &&& (255 : Int32))] ((own_run [(p2 &&& (255 : Int32)), (((p2.toUInt32 >>> ((8 : Int32) &&& 31).toUInt32).toInt32) &&& (255 : Int32))] ((-1 : Int32), (0 : Int32), (-1 : Int32))).1, (own_run [(p2 &&& (255 : Int32)), (((p2.toUInt32 >>> ((8 : Int32) &&& 31).toUInt32).toInt32) &&& (255 : Int32))] ((-1 : Int32), (0 : Int32), (-1 : Int32))).2.1, (own_run [(p2 &&& (255 : Int32)), (((p2.toUInt32 >>> ((8 : Int32) &&& 31).toUInt32).toInt32) &&& (255 : Int32))] ((-1 : Int32), (0 : Int32), (-1 : Int32))).2.2)).1)] [(.int (((p1.toUInt32 >>> ((16 : Int32) &&& 31).toUInt32).toInt32) &&& (255 : Int32))), (.int (((p1.toUInt32 >>> ((8 : Int32) &&& 31).toUInt32).toInt32) &&& (255 : Int32))), (.int (p1 &&& (255 : Int32))), (.int (own_run [(p1 &&& (255 : Int32)), (((p1.toUInt32 >>> ((8 : Int32) &&& 31).toUInt32).toInt32) &&& (255 : Int32)), (((p1.toUInt32 >>> ((16 : Int32) &&& 31).toUInt32).toInt32) &&& (255 : Int32))] ((-1 : Int32), (0 : Int32), (-1 : Int32))).1)])) rfl (by rw [hml]; rfl) (argsL := [(.int (p1 &&& (255 : Int32))), (.int (((p1.toUInt32 >>> ((8 : Int32) &&& 31).toUInt32).toInt32) &&& (255 : Int32))), (.int (((p1.toUInt32 >>> ((16 : Int32) &&& 31).toUInt32).toInt32) &&& (255 : Int32)))]) (rest := [(.int (own_run [(p1 &&& (255 : Int32)), (((p1.toUInt32 >>> ((8 : Int32) &&& 31).toUInt32).toInt32) &&& (255 : Int32)), (((p1.toUInt32 >>> ((16 : Int32) &&& 31).toUInt32).toInt32) &&& (255 : Int32))] ((-1 : Int32), (0 : Int32), (-1 : Int32))).1)]) (lenOf own_pd7 rfl) rfl (by show 2 * 0 + _ ≤ _; exact Nat.le_of_eq rfl) (hb hby at_167) (fun _ _ => ⟨rfl, rfl, (by decide : 7 + 0 ≤ _), (by decide : 34 + 0 ≤ _)⟩)
  dsimp only [Pt.U, Pt.locs, Pt.cells, Pt.slots] at X114 l114 y114 z114 st114 hQ114
  subst l114 y114 z114
  obtain ⟨rfl, N114q, e114⟩ := hQ114
  have N114 := Fr.app N110 N114q
  refine own_go st114 ?_
  show own_G p.tables e below T114 (mkF m 170 #[.val (.int p1), .val (.int p2), .val (.int (p1 &&& (255 : Int32))), .val (.int (((p1.toUInt32 >>> ((8 : Int32) &&& 31).toUInt32).toInt32) &&& (255 : Int32))), .val (.int (((p1.toUInt32 >>> ((16 : Int32) &&& 31).toUInt32).toInt32) &&& (255 : Int32))), .val (.int (p2 &&& (255 : Int32))), .val (.int (((p2.toUInt32 >>> ((8 : Int32) &&& 31).toUInt32).toInt32) &&& (255 : Int32))), .val (.int (((p2.toUInt32 >>> ((16 : Int32) &&& 31).toUInt32).toInt32) &&& (255 : Int32))), .val (.ref b1), .val (.ref b5), .val (.ref b13), .val (.ref b21), .val (.int (own_run [(p1 &&& (255 : Int32)), (((p1.toUInt32 >>> ((8 : Int32) &&& 31).toUInt32).toInt32) &&& (255 : Int32)), (((p1.toUInt32 >>> ((16 : Int32) &&& 31).toUInt32).toInt32) &&& (255 : Int32))] ((-1 : Int32), (0 : Int32), (-1 : Int32))).1), .val (.int (own_run [(((p2.toUInt32 >>> ((16 : Int32) &&& 31).toUInt32).toInt32) &&& (255 : Int32))] ((own_run [(p2 &&& (255 : Int32)), (((p2.toUInt32 >>> ((8 : Int32) &&& 31).toUInt32).toInt32) &&& (255 : Int32))] ((-1 : Int32), (0 : Int32), (-1 : Int32))).1, (own_run [(p2 &&& (255 : Int32)), (((p2.toUInt32 >>> ((8 : Int32) &&& 31).toUInt32).toInt32) &&& (255 : Int32))] ((-1 : Int32), (0 : Int32), (-1 : Int32))).2.1, (own_run [(p2 &&& (255 : Int32)), (((p2.toUInt32 >>> ((8 : Int32) &&& 31).toUInt32).toInt32) &&& (255 : Int32))] ((-1 : Int32), (0 : Int32), (-1 : Int32))).2.2)).1)] [(.int (own_ref3 (p1 &&& (255 : Int32)) (((p1.toUInt32 >>> ((8 : Int32) &&& 31).toUInt32).toInt32) &&& (255 : Int32)) (((p1.toUInt32 >>> ((16 : Int32) &&& 31).toUInt32).toInt32) &&& (255 : Int32)))), (.int (own_run [(p1 &&& (255 : Int32)), (((p1.toUInt32 >>> ((8 : Int32) &&& 31).toUInt32).toInt32) &&& (255 : Int32)), (((p1.toUInt32 >>> ((16 : Int32) &&& 31).toUInt32).toInt32) &&& (255 : Int32))] ((-1 : Int32), (0 : Int32), (-1 : Int32))).1)]) _
  refine own_go (fun t_ k_ => XS.icmpNo X114.here hx rfl (hb hby at_170) rfl (teq (own_three (own_n1 _) (own_n1 _) _)).2 k_) ?_
  show own_G p.tables e below T114 (mkF m 173 #[.val (.int p1), .val (.int p2), .val (.int (p1 &&& (255 : Int32))), .val (.int (((p1.toUInt32 >>> ((8 : Int32) &&& 31).toUInt32).toInt32) &&& (255 : Int32))), .val (.int (((p1.toUInt32 >>> ((16 : Int32) &&& 31).toUInt32).toInt32) &&& (255 : Int32))), .val (.int (p2 &&& (255 : Int32))), .val (.int (((p2.toUInt32 >>> ((8 : Int32) &&& 31).toUInt32).toInt32) &&& (255 : Int32))), .val (.int (((p2.toUInt32 >>> ((16 : Int32) &&& 31).toUInt32).toInt32) &&& (255 : Int32))), .val (.ref b1), .val (.ref b5), .val (.ref b13), .val (.ref b21), .val (.int (own_run [(p1 &&& (255 : Int32)), (((p1.toUInt32 >>> ((8 : Int32) &&& 31).toUInt32).toInt32) &&& (255 : Int32)), (((p1.toUInt32 >>> ((16 : Int32) &&& 31).toUInt32).toInt32) &&& (255 : Int32))] ((-1 : Int32), (0 : Int32), (-1 : Int32))).1), .val (.int (own_run [(((p2.toUInt32 >>> ((16 : Int32) &&& 31).toUInt32).toInt32) &&& (255 : Int32))] ((own_run [(p2 &&& (255 : Int32)), (((p2.toUInt32 >>> ((8 : Int32) &&& 31).toUInt32).toInt32) &&& (255 : Int32))] ((-1 : Int32), (0 : Int32), (-1 : Int32))).1, (own_run [(p2 &&& (255 : Int32)), (((p2.toUInt32 >>> ((8 : Int32) &&& 31).toUInt32).toInt32) &&& (255 : Int32))] ((-1 : Int32), (0 : Int32), (-1 : Int32))).2.1, (own_run [(p2 &&& (255 : Int32)), (((p2.toUInt32 >>> ((8 : Int32) &&& 31).toUInt32).toInt32) &&& (255 : Int32))] ((-1 : Int32), (0 : Int32), (-1 : Int32))).2.2)).1)] []) _
  refine own_go (fun t_ k_ => XS.iload X114.here hx rfl (hb hby at_173) rfl k_) ?_
  show own_G p.tables e below T114 (mkF m 175 #[.val (.int p1), .val (.int p2), .val (.int (p1 &&& (255 : Int32))), .val (.int (((p1.toUInt32 >>> ((8 : Int32) &&& 31).toUInt32).toInt32) &&& (255 : Int32))), .val (.int (((p1.toUInt32 >>> ((16 : Int32) &&& 31).toUInt32).toInt32) &&& (255 : Int32))), .val (.int (p2 &&& (255 : Int32))), .val (.int (((p2.toUInt32 >>> ((8 : Int32) &&& 31).toUInt32).toInt32) &&& (255 : Int32))), .val (.int (((p2.toUInt32 >>> ((16 : Int32) &&& 31).toUInt32).toInt32) &&& (255 : Int32))), .val (.ref b1), .val (.ref b5), .val (.ref b13), .val (.ref b21), .val (.int (own_run [(p1 &&& (255 : Int32)), (((p1.toUInt32 >>> ((8 : Int32) &&& 31).toUInt32).toInt32) &&& (255 : Int32)), (((p1.toUInt32 >>> ((16 : Int32) &&& 31).toUInt32).toInt32) &&& (255 : Int32))] ((-1 : Int32), (0 : Int32), (-1 : Int32))).1), .val (.int (own_run [(((p2.toUInt32 >>> ((16 : Int32) &&& 31).toUInt32).toInt32) &&& (255 : Int32))] ((own_run [(p2 &&& (255 : Int32)), (((p2.toUInt32 >>> ((8 : Int32) &&& 31).toUInt32).toInt32) &&& (255 : Int32))] ((-1 : Int32), (0 : Int32), (-1 : Int32))).1, (own_run [(p2 &&& (255 : Int32)), (((p2.toUInt32 >>> ((8 : Int32) &&& 31).toUInt32).toInt32) &&& (255 : Int32))] ((-1 : Int32), (0 : Int32), (-1 : Int32))).2.1, (own_run [(p2 &&& (255 : Int32)), (((p2.toUInt32 >>> ((8 : Int32) &&& 31).toUInt32).toInt32) &&& (255 : Int32))] ((-1 : Int32), (0 : Int32), (-1 : Int32))).2.2)).1)] [(.int (own_run [(((p2.toUInt32 >>> ((16 : Int32) &&& 31).toUInt32).toInt32) &&& (255 : Int32))] ((own_run [(p2 &&& (255 : Int32)), (((p2.toUInt32 >>> ((8 : Int32) &&& 31).toUInt32).toInt32) &&& (255 : Int32))] ((-1 : Int32), (0 : Int32), (-1 : Int32))).1, (own_run [(p2 &&& (255 : Int32)), (((p2.toUInt32 >>> ((8 : Int32) &&& 31).toUInt32).toInt32) &&& (255 : Int32))] ((-1 : Int32), (0 : Int32), (-1 : Int32))).2.1, (own_run [(p2 &&& (255 : Int32)), (((p2.toUInt32 >>> ((8 : Int32) &&& 31).toUInt32).toInt32) &&& (255 : Int32))] ((-1 : Int32), (0 : Int32), (-1 : Int32))).2.2)).1)]) _
  refine own_go (fun t_ k_ => XS.iload X114.here hx rfl (hb hby at_175) rfl k_) ?_
  show own_G p.tables e below T114 (mkF m 177 #[.val (.int p1), .val (.int p2), .val (.int (p1 &&& (255 : Int32))), .val (.int (((p1.toUInt32 >>> ((8 : Int32) &&& 31).toUInt32).toInt32) &&& (255 : Int32))), .val (.int (((p1.toUInt32 >>> ((16 : Int32) &&& 31).toUInt32).toInt32) &&& (255 : Int32))), .val (.int (p2 &&& (255 : Int32))), .val (.int (((p2.toUInt32 >>> ((8 : Int32) &&& 31).toUInt32).toInt32) &&& (255 : Int32))), .val (.int (((p2.toUInt32 >>> ((16 : Int32) &&& 31).toUInt32).toInt32) &&& (255 : Int32))), .val (.ref b1), .val (.ref b5), .val (.ref b13), .val (.ref b21), .val (.int (own_run [(p1 &&& (255 : Int32)), (((p1.toUInt32 >>> ((8 : Int32) &&& 31).toUInt32).toInt32) &&& (255 : Int32)), (((p1.toUInt32 >>> ((16 : Int32) &&& 31).toUInt32).toInt32) &&& (255 : Int32))] ((-1 : Int32), (0 : Int32), (-1 : Int32))).1), .val (.int (own_run [(((p2.toUInt32 >>> ((16 : Int32) &&& 31).toUInt32).toInt32) &&& (255 : Int32))] ((own_run [(p2 &&& (255 : Int32)), (((p2.toUInt32 >>> ((8 : Int32) &&& 31).toUInt32).toInt32) &&& (255 : Int32))] ((-1 : Int32), (0 : Int32), (-1 : Int32))).1, (own_run [(p2 &&& (255 : Int32)), (((p2.toUInt32 >>> ((8 : Int32) &&& 31).toUInt32).toInt32) &&& (255 : Int32))] ((-1 : Int32), (0 : Int32), (-1 : Int32))).2.1, (own_run [(p2 &&& (255 : Int32)), (((p2.toUInt32 >>> ((8 : Int32) &&& 31).toUInt32).toInt32) &&& (255 : Int32))] ((-1 : Int32), (0 : Int32), (-1 : Int32))).2.2)).1)] [(.int (p2 &&& (255 : Int32))), (.int (own_run [(((p2.toUInt32 >>> ((16 : Int32) &&& 31).toUInt32).toInt32) &&& (255 : Int32))] ((own_run [(p2 &&& (255 : Int32)), (((p2.toUInt32 >>> ((8 : Int32) &&& 31).toUInt32).toInt32) &&& (255 : Int32))] ((-1 : Int32), (0 : Int32), (-1 : Int32))).1, (own_run [(p2 &&& (255 : Int32)), (((p2.toUInt32 >>> ((8 : Int32) &&& 31).toUInt32).toInt32) &&& (255 : Int32))] ((-1 : Int32), (0 : Int32), (-1 : Int32))).2.1, (own_run [(p2 &&& (255 : Int32)), (((p2.toUInt32 >>> ((8 : Int32) &&& 31).toUInt32).toInt32) &&& (255 : Int32))] ((-1 : Int32), (0 : Int32), (-1 : Int32))).2.2)).1)]) _
  refine own_go (fun t_ k_ => XS.iload X114.here hx rfl (hb hby at_177) rfl k_) ?_
  show own_G p.tables e below T114 (mkF m 179 #[.val (.int p1), .val (.int p2), .val (.int (p1 &&& (255 : Int32))), .val (.int (((p1.toUInt32 >>> ((8 : Int32) &&& 31).toUInt32).toInt32) &&& (255 : Int32))), .val (.int (((p1.toUInt32 >>> ((16 : Int32) &&& 31).toUInt32).toInt32) &&& (255 : Int32))), .val (.int (p2 &&& (255 : Int32))), .val (.int (((p2.toUInt32 >>> ((8 : Int32) &&& 31).toUInt32).toInt32) &&& (255 : Int32))), .val (.int (((p2.toUInt32 >>> ((16 : Int32) &&& 31).toUInt32).toInt32) &&& (255 : Int32))), .val (.ref b1), .val (.ref b5), .val (.ref b13), .val (.ref b21), .val (.int (own_run [(p1 &&& (255 : Int32)), (((p1.toUInt32 >>> ((8 : Int32) &&& 31).toUInt32).toInt32) &&& (255 : Int32)), (((p1.toUInt32 >>> ((16 : Int32) &&& 31).toUInt32).toInt32) &&& (255 : Int32))] ((-1 : Int32), (0 : Int32), (-1 : Int32))).1), .val (.int (own_run [(((p2.toUInt32 >>> ((16 : Int32) &&& 31).toUInt32).toInt32) &&& (255 : Int32))] ((own_run [(p2 &&& (255 : Int32)), (((p2.toUInt32 >>> ((8 : Int32) &&& 31).toUInt32).toInt32) &&& (255 : Int32))] ((-1 : Int32), (0 : Int32), (-1 : Int32))).1, (own_run [(p2 &&& (255 : Int32)), (((p2.toUInt32 >>> ((8 : Int32) &&& 31).toUInt32).toInt32) &&& (255 : Int32))] ((-1 : Int32), (0 : Int32), (-1 : Int32))).2.1, (own_run [(p2 &&& (255 : Int32)), (((p2.toUInt32 >>> ((8 : Int32) &&& 31).toUInt32).toInt32) &&& (255 : Int32))] ((-1 : Int32), (0 : Int32), (-1 : Int32))).2.2)).1)] [(.int (((p2.toUInt32 >>> ((8 : Int32) &&& 31).toUInt32).toInt32) &&& (255 : Int32))), (.int (p2 &&& (255 : Int32))), (.int (own_run [(((p2.toUInt32 >>> ((16 : Int32) &&& 31).toUInt32).toInt32) &&& (255 : Int32))] ((own_run [(p2 &&& (255 : Int32)), (((p2.toUInt32 >>> ((8 : Int32) &&& 31).toUInt32).toInt32) &&& (255 : Int32))] ((-1 : Int32), (0 : Int32), (-1 : Int32))).1, (own_run [(p2 &&& (255 : Int32)), (((p2.toUInt32 >>> ((8 : Int32) &&& 31).toUInt32).toInt32) &&& (255 : Int32))] ((-1 : Int32), (0 : Int32), (-1 : Int32))).2.1, (own_run [(p2 &&& (255 : Int32)), (((p2.toUInt32 >>> ((8 : Int32) &&& 31).toUInt32).toInt32) &&& (255 : Int32))] ((-1 : Int32), (0 : Int32), (-1 : Int32))).2.2)).1)]) _
  refine own_go (fun t_ k_ => XS.iload X114.here hx rfl (hb hby at_179) rfl k_) ?_
  show own_G p.tables e below T114 (mkF m 181 #[.val (.int p1), .val (.int p2), .val (.int (p1 &&& (255 : Int32))), .val (.int (((p1.toUInt32 >>> ((8 : Int32) &&& 31).toUInt32).toInt32) &&& (255 : Int32))), .val (.int (((p1.toUInt32 >>> ((16 : Int32) &&& 31).toUInt32).toInt32) &&& (255 : Int32))), .val (.int (p2 &&& (255 : Int32))), .val (.int (((p2.toUInt32 >>> ((8 : Int32) &&& 31).toUInt32).toInt32) &&& (255 : Int32))), .val (.int (((p2.toUInt32 >>> ((16 : Int32) &&& 31).toUInt32).toInt32) &&& (255 : Int32))), .val (.ref b1), .val (.ref b5), .val (.ref b13), .val (.ref b21), .val (.int (own_run [(p1 &&& (255 : Int32)), (((p1.toUInt32 >>> ((8 : Int32) &&& 31).toUInt32).toInt32) &&& (255 : Int32)), (((p1.toUInt32 >>> ((16 : Int32) &&& 31).toUInt32).toInt32) &&& (255 : Int32))] ((-1 : Int32), (0 : Int32), (-1 : Int32))).1), .val (.int (own_run [(((p2.toUInt32 >>> ((16 : Int32) &&& 31).toUInt32).toInt32) &&& (255 : Int32))] ((own_run [(p2 &&& (255 : Int32)), (((p2.toUInt32 >>> ((8 : Int32) &&& 31).toUInt32).toInt32) &&& (255 : Int32))] ((-1 : Int32), (0 : Int32), (-1 : Int32))).1, (own_run [(p2 &&& (255 : Int32)), (((p2.toUInt32 >>> ((8 : Int32) &&& 31).toUInt32).toInt32) &&& (255 : Int32))] ((-1 : Int32), (0 : Int32), (-1 : Int32))).2.1, (own_run [(p2 &&& (255 : Int32)), (((p2.toUInt32 >>> ((8 : Int32) &&& 31).toUInt32).toInt32) &&& (255 : Int32))] ((-1 : Int32), (0 : Int32), (-1 : Int32))).2.2)).1)] [(.int (((p2.toUInt32 >>> ((16 : Int32) &&& 31).toUInt32).toInt32) &&& (255 : Int32))), (.int (((p2.toUInt32 >>> ((8 : Int32) &&& 31).toUInt32).toInt32) &&& (255 : Int32))), (.int (p2 &&& (255 : Int32))), (.int (own_run [(((p2.toUInt32 >>> ((16 : Int32) &&& 31).toUInt32).toInt32) &&& (255 : Int32))] ((own_run [(p2 &&& (255 : Int32)), (((p2.toUInt32 >>> ((8 : Int32) &&& 31).toUInt32).toInt32) &&& (255 : Int32))] ((-1 : Int32), (0 : Int32), (-1 : Int32))).1, (own_run [(p2 &&& (255 : Int32)), (((p2.toUInt32 >>> ((8 : Int32) &&& 31).toUInt32).toInt32) &&& (255 : Int32))] ((-1 : Int32), (0 : Int32), (-1 : Int32))).2.1, (own_run [(p2 &&& (255 : Int32)), (((p2.toUInt32 >>> ((8 : Int32) &&& 31).toUInt32).toInt32) &&& (255 : Int32))] ((-1 : Int32), (0 : Int32), (-1 : Int32))).2.2)).1)]) _
  obtain ⟨_, _, ⟨T115, L115, k115, n115⟩, -, X115, ⟨Lc115, hQ115, l115, y115, z115⟩, st115⟩ := Jvm.LawKit.callS X114 hx (y := (⟨"com/example/einzug/einzug/core/TextCharactersClosePinLaw", "ref3", "(III)I"⟩ : MethodName)) hown (mvT hZ (hw _ (List.mem_of_getElem? (i := 60) rfl))) (mvT hZ (hw _ (List.mem_of_getElem? (i := 61) rfl))) (mvT hZ (hw _ (List.mem_of_getElem? (i := 62) rfl))) (mvT hZ (hw _ (List.mem_of_getElem? (i := 63) rfl))) (by decide) (backOf (W := 1) (rm12 l Z a0 hw [] (p2 &&& (255 : Int32)) (((p2.toUInt32 >>> ((8 : Int32) &&& 31).toUInt32).toInt32) &&& (255 : Int32)) (((p2.toUInt32 >>> ((16 : Int32) &&& 31).toUInt32).toInt32) &&& (255 : Int32)) aP clP T110.heap n0 f111 f112 f113 sz_P tab_P) hZ (hw _ (List.mem_of_getElem? (i := 63) rfl)) (hw _ (List.mem_of_getElem? (i := 62) rfl)) (by decide) (by decide)) (g := (mkF m 181 #[.val (.int p1), .val (.int p2), .val (.int (p1 &&& (255 : Int32))), .val (.int (((p1.toUInt32 >>> ((8 : Int32) &&& 31).toUInt32).toInt32) &&& (255 : Int32))), .val (.int (((p1.toUInt32 >>> ((16 : Int32) &&& 31).toUInt32).toInt32) &&& (255 : Int32))), .val (.int (p2 &&& (255 : Int32))), .val (.int (((p2.toUInt32 >>> ((8 : Int32) &&& 31).toUInt32).toInt32) &&& (255 : Int32))), .val (.int (((p2.toUInt32 >>> ((16 : Int32) &&& 31).toUInt32).toInt32) &&& (255 : Int32))), .val (.ref b1), .val (.ref b5), .val (.ref b13), .val (.ref b21), .val (.int (own_run [(p1 &&& (255 : Int32)), (((p1.toUInt32 >>> ((8 : Int32) &&& 31).toUInt32).toInt32) &&& (255 : Int32)), (((p1.toUInt32 >>> ((16 : Int32) &&& 31).toUInt32).toInt32) &&& (255 : Int32))] ((-1 : Int32), (0 : Int32), (-1 : Int32))).1), .val (.int (own_run [(((p2.toUInt32 >>> ((16 : Int32) &&& 31).toUInt32).toInt32) &&& (255 : Int32))] ((own_run [(p2 &&& (255 : Int32)), (((p2.toUInt32 >>> ((8 : Int32) &&& 31).toUInt32).toInt32) &&& (255 : Int32))] ((-1 : Int32), (0 : Int32), (-1 : Int32))).1, (own_run [(p2 &&& (255 : Int32)), (((p2.toUInt32 >>> ((8 : Int32) &&& 31).toUInt32).toInt32) &&& (255 : Int32))] ((-1 : Int32), (0 : Int32), (-1 : Int32))).2.1, (own_run [(p2 &&& (255 : Int32)), (((p2.toUInt32 >>> ((8 : Int32) &&& 31).toUInt32).toInt32) &&& (255 : Int32))] ((-1 : Int32), (0 : Int32), (-1 : Int32))).2.2)).1)] [(.int (((p2.toUInt32 >>> ((16 : Int32) &&& 31).toUInt32).toInt32) &&& (255 : Int32))), (.int (((p2.toUInt32 >>> ((8 : Int32) &&& 31).toUInt32).toInt32) &&& (255 : Int32))), (.int (p2 &&& (255 : Int32))), (.int (own_run [(((p2.toUInt32 >>> ((16 : Int32) &&& 31).toUInt32).toInt32) &&& (255 : Int32))] ((own_run [(p2 &&& (255 : Int32)), (((p2.toUInt32 >>> ((8 : Int32) &&& 31).toUInt32).toInt32) &&& (255 : Int32))] ((-1 : Int32), (0 : Int32), (-1 : Int32))).1, (own_run [(p2 &&& (255 : Int32)), (((p2.toUInt32 >>> ((8 : Int32) &&& 31).toUInt32).toInt32) &&& (255 : Int32))] ((-1 : Int32), (0 : Int32), (-1 : Int32))).2.1, (own_run [(p2 &&& (255 : Int32)), (((p2.toUInt32 >>> ((8 : Int32) &&& 31).toUInt32).toInt32) &&& (255 : Int32))] ((-1 : Int32), (0 : Int32), (-1 : Int32))).2.2)).1)])) rfl (by rw [hml]; rfl) (argsL := [(.int (p2 &&& (255 : Int32))), (.int (((p2.toUInt32 >>> ((8 : Int32) &&& 31).toUInt32).toInt32) &&& (255 : Int32))), (.int (((p2.toUInt32 >>> ((16 : Int32) &&& 31).toUInt32).toInt32) &&& (255 : Int32)))]) (rest := [(.int (own_run [(((p2.toUInt32 >>> ((16 : Int32) &&& 31).toUInt32).toInt32) &&& (255 : Int32))] ((own_run [(p2 &&& (255 : Int32)), (((p2.toUInt32 >>> ((8 : Int32) &&& 31).toUInt32).toInt32) &&& (255 : Int32))] ((-1 : Int32), (0 : Int32), (-1 : Int32))).1, (own_run [(p2 &&& (255 : Int32)), (((p2.toUInt32 >>> ((8 : Int32) &&& 31).toUInt32).toInt32) &&& (255 : Int32))] ((-1 : Int32), (0 : Int32), (-1 : Int32))).2.1, (own_run [(p2 &&& (255 : Int32)), (((p2.toUInt32 >>> ((8 : Int32) &&& 31).toUInt32).toInt32) &&& (255 : Int32))] ((-1 : Int32), (0 : Int32), (-1 : Int32))).2.2)).1)]) (lenOf own_pd7 rfl) rfl (by show 2 * 0 + _ ≤ _; exact Nat.le_of_eq rfl) (hb hby at_181) (fun _ _ => ⟨rfl, e114, (by decide : 7 + 0 ≤ _), (by decide : 34 + 0 ≤ _)⟩)
  dsimp only [Pt.U, Pt.locs, Pt.cells, Pt.slots] at X115 l115 y115 z115 st115 hQ115
  subst l115 y115 z115
  obtain ⟨rfl, N115q, e115⟩ := hQ115
  have N115 := Fr.app N114 N115q
  refine own_go st115 ?_
  show own_G p.tables e below T115 (mkF m 184 #[.val (.int p1), .val (.int p2), .val (.int (p1 &&& (255 : Int32))), .val (.int (((p1.toUInt32 >>> ((8 : Int32) &&& 31).toUInt32).toInt32) &&& (255 : Int32))), .val (.int (((p1.toUInt32 >>> ((16 : Int32) &&& 31).toUInt32).toInt32) &&& (255 : Int32))), .val (.int (p2 &&& (255 : Int32))), .val (.int (((p2.toUInt32 >>> ((8 : Int32) &&& 31).toUInt32).toInt32) &&& (255 : Int32))), .val (.int (((p2.toUInt32 >>> ((16 : Int32) &&& 31).toUInt32).toInt32) &&& (255 : Int32))), .val (.ref b1), .val (.ref b5), .val (.ref b13), .val (.ref b21), .val (.int (own_run [(p1 &&& (255 : Int32)), (((p1.toUInt32 >>> ((8 : Int32) &&& 31).toUInt32).toInt32) &&& (255 : Int32)), (((p1.toUInt32 >>> ((16 : Int32) &&& 31).toUInt32).toInt32) &&& (255 : Int32))] ((-1 : Int32), (0 : Int32), (-1 : Int32))).1), .val (.int (own_run [(((p2.toUInt32 >>> ((16 : Int32) &&& 31).toUInt32).toInt32) &&& (255 : Int32))] ((own_run [(p2 &&& (255 : Int32)), (((p2.toUInt32 >>> ((8 : Int32) &&& 31).toUInt32).toInt32) &&& (255 : Int32))] ((-1 : Int32), (0 : Int32), (-1 : Int32))).1, (own_run [(p2 &&& (255 : Int32)), (((p2.toUInt32 >>> ((8 : Int32) &&& 31).toUInt32).toInt32) &&& (255 : Int32))] ((-1 : Int32), (0 : Int32), (-1 : Int32))).2.1, (own_run [(p2 &&& (255 : Int32)), (((p2.toUInt32 >>> ((8 : Int32) &&& 31).toUInt32).toInt32) &&& (255 : Int32))] ((-1 : Int32), (0 : Int32), (-1 : Int32))).2.2)).1)] [(.int (own_ref3 (p2 &&& (255 : Int32)) (((p2.toUInt32 >>> ((8 : Int32) &&& 31).toUInt32).toInt32) &&& (255 : Int32)) (((p2.toUInt32 >>> ((16 : Int32) &&& 31).toUInt32).toInt32) &&& (255 : Int32)))), (.int (own_run [(((p2.toUInt32 >>> ((16 : Int32) &&& 31).toUInt32).toInt32) &&& (255 : Int32))] ((own_run [(p2 &&& (255 : Int32)), (((p2.toUInt32 >>> ((8 : Int32) &&& 31).toUInt32).toInt32) &&& (255 : Int32))] ((-1 : Int32), (0 : Int32), (-1 : Int32))).1, (own_run [(p2 &&& (255 : Int32)), (((p2.toUInt32 >>> ((8 : Int32) &&& 31).toUInt32).toInt32) &&& (255 : Int32))] ((-1 : Int32), (0 : Int32), (-1 : Int32))).2.1, (own_run [(p2 &&& (255 : Int32)), (((p2.toUInt32 >>> ((8 : Int32) &&& 31).toUInt32).toInt32) &&& (255 : Int32))] ((-1 : Int32), (0 : Int32), (-1 : Int32))).2.2)).1)]) _
  refine own_go (fun t_ k_ => XS.icmpNo X115.here hx rfl (hb hby at_184) rfl (teq ((own_four _ _ _ _).trans (own_three (own_n1 _) (own_n1 _) _))).2 k_) ?_
  show own_G p.tables e below T115 (mkF m 187 #[.val (.int p1), .val (.int p2), .val (.int (p1 &&& (255 : Int32))), .val (.int (((p1.toUInt32 >>> ((8 : Int32) &&& 31).toUInt32).toInt32) &&& (255 : Int32))), .val (.int (((p1.toUInt32 >>> ((16 : Int32) &&& 31).toUInt32).toInt32) &&& (255 : Int32))), .val (.int (p2 &&& (255 : Int32))), .val (.int (((p2.toUInt32 >>> ((8 : Int32) &&& 31).toUInt32).toInt32) &&& (255 : Int32))), .val (.int (((p2.toUInt32 >>> ((16 : Int32) &&& 31).toUInt32).toInt32) &&& (255 : Int32))), .val (.ref b1), .val (.ref b5), .val (.ref b13), .val (.ref b21), .val (.int (own_run [(p1 &&& (255 : Int32)), (((p1.toUInt32 >>> ((8 : Int32) &&& 31).toUInt32).toInt32) &&& (255 : Int32)), (((p1.toUInt32 >>> ((16 : Int32) &&& 31).toUInt32).toInt32) &&& (255 : Int32))] ((-1 : Int32), (0 : Int32), (-1 : Int32))).1), .val (.int (own_run [(((p2.toUInt32 >>> ((16 : Int32) &&& 31).toUInt32).toInt32) &&& (255 : Int32))] ((own_run [(p2 &&& (255 : Int32)), (((p2.toUInt32 >>> ((8 : Int32) &&& 31).toUInt32).toInt32) &&& (255 : Int32))] ((-1 : Int32), (0 : Int32), (-1 : Int32))).1, (own_run [(p2 &&& (255 : Int32)), (((p2.toUInt32 >>> ((8 : Int32) &&& 31).toUInt32).toInt32) &&& (255 : Int32))] ((-1 : Int32), (0 : Int32), (-1 : Int32))).2.1, (own_run [(p2 &&& (255 : Int32)), (((p2.toUInt32 >>> ((8 : Int32) &&& 31).toUInt32).toInt32) &&& (255 : Int32))] ((-1 : Int32), (0 : Int32), (-1 : Int32))).2.2)).1)] []) _
  refine own_go (fun t_ k_ => XS.iconst X115.here hx rfl (hb hby at_187) k_) ?_
  show own_G p.tables e below T115 (mkF m 188 #[.val (.int p1), .val (.int p2), .val (.int (p1 &&& (255 : Int32))), .val (.int (((p1.toUInt32 >>> ((8 : Int32) &&& 31).toUInt32).toInt32) &&& (255 : Int32))), .val (.int (((p1.toUInt32 >>> ((16 : Int32) &&& 31).toUInt32).toInt32) &&& (255 : Int32))), .val (.int (p2 &&& (255 : Int32))), .val (.int (((p2.toUInt32 >>> ((8 : Int32) &&& 31).toUInt32).toInt32) &&& (255 : Int32))), .val (.int (((p2.toUInt32 >>> ((16 : Int32) &&& 31).toUInt32).toInt32) &&& (255 : Int32))), .val (.ref b1), .val (.ref b5), .val (.ref b13), .val (.ref b21), .val (.int (own_run [(p1 &&& (255 : Int32)), (((p1.toUInt32 >>> ((8 : Int32) &&& 31).toUInt32).toInt32) &&& (255 : Int32)), (((p1.toUInt32 >>> ((16 : Int32) &&& 31).toUInt32).toInt32) &&& (255 : Int32))] ((-1 : Int32), (0 : Int32), (-1 : Int32))).1), .val (.int (own_run [(((p2.toUInt32 >>> ((16 : Int32) &&& 31).toUInt32).toInt32) &&& (255 : Int32))] ((own_run [(p2 &&& (255 : Int32)), (((p2.toUInt32 >>> ((8 : Int32) &&& 31).toUInt32).toInt32) &&& (255 : Int32))] ((-1 : Int32), (0 : Int32), (-1 : Int32))).1, (own_run [(p2 &&& (255 : Int32)), (((p2.toUInt32 >>> ((8 : Int32) &&& 31).toUInt32).toInt32) &&& (255 : Int32))] ((-1 : Int32), (0 : Int32), (-1 : Int32))).2.1, (own_run [(p2 &&& (255 : Int32)), (((p2.toUInt32 >>> ((8 : Int32) &&& 31).toUInt32).toInt32) &&& (255 : Int32))] ((-1 : Int32), (0 : Int32), (-1 : Int32))).2.2)).1)] [(.int (1 : Int32))]) _
  refine own_go (fun t_ k_ => XS.goto X115.here hx rfl (pc0 := 188) (pc' := 192) rfl (hb hby at_188) (by decide) (by decide) k_) ?_
  show own_G p.tables e below T115 (mkF m 192 #[.val (.int p1), .val (.int p2), .val (.int (p1 &&& (255 : Int32))), .val (.int (((p1.toUInt32 >>> ((8 : Int32) &&& 31).toUInt32).toInt32) &&& (255 : Int32))), .val (.int (((p1.toUInt32 >>> ((16 : Int32) &&& 31).toUInt32).toInt32) &&& (255 : Int32))), .val (.int (p2 &&& (255 : Int32))), .val (.int (((p2.toUInt32 >>> ((8 : Int32) &&& 31).toUInt32).toInt32) &&& (255 : Int32))), .val (.int (((p2.toUInt32 >>> ((16 : Int32) &&& 31).toUInt32).toInt32) &&& (255 : Int32))), .val (.ref b1), .val (.ref b5), .val (.ref b13), .val (.ref b21), .val (.int (own_run [(p1 &&& (255 : Int32)), (((p1.toUInt32 >>> ((8 : Int32) &&& 31).toUInt32).toInt32) &&& (255 : Int32)), (((p1.toUInt32 >>> ((16 : Int32) &&& 31).toUInt32).toInt32) &&& (255 : Int32))] ((-1 : Int32), (0 : Int32), (-1 : Int32))).1), .val (.int (own_run [(((p2.toUInt32 >>> ((16 : Int32) &&& 31).toUInt32).toInt32) &&& (255 : Int32))] ((own_run [(p2 &&& (255 : Int32)), (((p2.toUInt32 >>> ((8 : Int32) &&& 31).toUInt32).toInt32) &&& (255 : Int32))] ((-1 : Int32), (0 : Int32), (-1 : Int32))).1, (own_run [(p2 &&& (255 : Int32)), (((p2.toUInt32 >>> ((8 : Int32) &&& 31).toUInt32).toInt32) &&& (255 : Int32))] ((-1 : Int32), (0 : Int32), (-1 : Int32))).2.1, (own_run [(p2 &&& (255 : Int32)), (((p2.toUInt32 >>> ((8 : Int32) &&& 31).toUInt32).toInt32) &&& (255 : Int32))] ((-1 : Int32), (0 : Int32), (-1 : Int32))).2.2)).1)] [(.int (1 : Int32))]) _
  exact own_end (v := some (.int (1 : Int32))) X115 Bd.notSynchronized (fun h => by rw [Bd.returns] at h; cases h) (fun fs hr => retN X115 hx (z := (1 : Int32)) (t := .boolean) Bd.returns (by simp) (hb hby at_192) hr) e115 ⟨rfl, N115⟩ (by decide) (by decide)
set_option maxRecDepth 65536 in
set_option maxHeartbeats 40000000 in
theorem comes_1 {Post : Tables → Env → Array Value → State → Outcome → State → Prop} (hpost : ∀ tb e args s v u, (limb_1_1.after args s (.returned v) u = true ∧ limb_1_2.after args s (.returned v) u = true ∧ True) → FrameEnd s (.returned v) u (Jvm.fieldLocs frame_1_writes args s ++ Jvm.arrayLocs frame_1_arrays args s ++ Jvm.staticLocs frame_1_statics s) 24 192 → Post tb e args s (.returned v) u) :
    ArmFor flags0 classFile x code maxLocals ret World_1 tables_1 room_1 Calls_1 rest_1 Pre_1 Post := by
  intro l hfl _ _ p e ha hc hk s m args below hf hA hF happ hP
  obtain ⟨hcalls, hrest, hpre⟩ := hP
  obtain ⟨-, -, -, hnamed, -, -, -, hat⟩ := (Spec.applies_iff hf).mp happ
  obtain ⟨hg, hn⟩ := and_e (Cond.before_iff.mp (show (Jvm.Cond.and given_1 narrow_1).before args s = true from hpre))
  obtain ⟨g0, gr0⟩ := and_e hg
  obtain ⟨g1, gr1⟩ := and_e gr0
  obtain ⟨w0, w1, rfl⟩ : ∃ w0 w1 : Value, args = #[w0, w1] := by
    have hs : args.size = 2 := by simpa [Cond.value, given_1] using g0
    obtain ⟨L⟩ := args
    match L, hs with
    | [w0, w1], _ => exact ⟨w0, w1, rfl⟩
  have hw := fun d (hd : d ∈ tables_1) => atoms_spec (ws := Jvm.Cond.code x code maxLocals ret :: tables_1) hat d (List.mem_cons_of_mem _ hd)
  have hfit : Fit s := fun {y c} hc i hi => by
    obtain ⟨ha, rfl⟩ := Array.getElem?_eq_some_iff.mp hc
    have q := List.all_eq_true.mp ((Array.all_eq_true_iff_forall_mem.mp hF) _ (Array.getElem_mem ha)) i (List.mem_range.mpr hi)
    simpa [Array.getElem?_eq_getElem hi] using q
  obtain ⟨i0, ei0⟩ := is_v g1
  obtain rfl : w0 = (.int i0) := Option.some.inj ei0
  obtain ⟨i1, ei1⟩ := is_v gr1
  obtain rfl : w1 = (.int i1) := Option.some.inj ei1
  obtain ⟨aP, clP, S_P, Ar_P, sz_P, tab_P⟩ := own_narrow hw hn
  obtain ⟨n, o, h1, h2, h3, _, L, rfl, ⟨rfl, N⟩, hq⟩ := rm0 l s _ hw tables_1 i0 i1 aP clP s.heap s.heap.size (Nat.le_refl _) S_P Ar_P sz_P tab_P p e ha hc hk s m _ below hf ((Spec.applies_iff_loose hf).mp happ).1 ⟨rfl, State.Warmed39.refl s, rfl⟩ trivial
  refine ⟨n, _, h1, h2, h3, hpost _ _ _ _ _ _ ⟨Cond.after_iff.mpr rfl, Cond.after_iff.mpr (eq_i res_at (Term.int_eval (1)) rfl), trivial⟩ ⟨hq.1, hq.2.1, (hq.2.2.sift fun y hy => Or.inr (N y hy)).mono (by decide) (by decide)⟩⟩
theorem main_1_1 : Claimed_1_1 := comes_1 fun _ _ _ _ _ _ h hF => ⟨h.1, hF⟩
theorem main_1_2 : Claimed_1_2 := comes_1 fun _ _ _ _ _ _ h hF => ⟨h.2.1, hF⟩
end Jvm.Pilot.@@N@@
namespace Jvm.Pilot.@@N@@
open Jvm Jvm.ClassFile Sem Op Lib Jvm.Free Jvm.Stand Jvm.Pilot.@@N@@.Jvm.D
/-! MADE BY PROGRAM (witnessworld.py) out of the Statement's table words and the real class files: 18 classes; the members and pool entries that the words name. The judged class is class 1, her method 3. -/
namespace start1
open Jvm.ClassFile
def u (s : String) : CpInfo := .utf8 (stringToUtf16 s)
/-- a pool by its gaps: so many unusable entries, then the entry; so many at the end -/
def gap : Nat → List CpInfo → List CpInfo
  | 0, r => r
  | n + 1, r => .unusable :: gap n r
def poolList (es : List (Nat × CpInfo)) (last : Nat) : List CpInfo := es.foldr (fun e r => gap e.1 (e.2 :: r)) (gap last [])
def pool (es : List (Nat × CpInfo)) (last : Nat) : Array CpInfo := ⟨poolList es last⟩
def fileOf (pool : Array CpInfo) (this : Nat) (attrs : Array Attribute := #[]) (ms : Array MethodInfo := #[]) (fl : Nat := 33) (sup : Nat := 0) (ifs : Array Nat := #[]) (fds : Array FieldInfo := #[]) : ClassFile where
  minorVersion := 0
  majorVersion := 65
  constantPool := pool
  accessFlags := fl
  thisClass := this
  superClass := sup
  interfaces := ifs
  fields := fds
  methods := ms
  attributes := attrs
def plain (name : String) (sup : Option ClassId) : Class where
  name := name
  kind := .ordinary
  loader := none
  accessFlags := 33
  super := sup
  interfaces := #[]
  cf := none
  fields := #[]
  methods := #[]
  instanceTypes := #[]
  staticTypes := #[]
  resolved := #[]
  callSites := []
  init := .initialized
  statics := none
  mirror := none

def pool0 : Array CpInfo := pool [(5, u "<init>"), (0, u "()V"), (1, .class_ 10), (1, u "java/lang/Object")] 113

def k0c0 : Code := { maxStack := 0, maxLocals := 1, code := object_method_1_code, exceptionTable := #[], attributes := #[] }
def k0m0 : Method := { name := "<init>", desc := "()V", sig := { parameters := [], returnType := none }, accessFlags := 1, code := some k0c0 }
/-- java/lang/Object -/
def k0 : Class := { plain "java/lang/Object" none with
  accessFlags := 33
  interfaces := #[]
  cf := some (fileOf pool0 8 #[] #[{ accessFlags := 1, nameIndex := 5, descriptorIndex := 6, attributes := #[] }] 33 0 #[] #[])
  fields := #[]
  methods := #[k0m0]
  instanceTypes := #[]
  staticTypes := #[]
  resolved := Array.replicate 124 none
  statics := none }

def pool1 : Array CpInfo := pool [(2, .class_ 4), (0, .nameAndType 5 6), (0, u "java/lang/Object"), (0, u "<init>"), (0, u "()V"), (0, .methodref 8 9), (0, .class_ 10), (0, .nameAndType 11 12), (0, u "com/example/einzug/einzug/core/TextCharactersClosePinLaw"), (0, u "sp"), (0, u "(I)Z"), (0, .methodref 14 15), (0, .class_ 16), (0, .nameAndType 17 12), (0, u "com/example/einzug/einzug/rules/PermittedCharacters"), (0, u "isPermitted"), (0, .class_ 19), (0, u "com/example/einzug/einzug/core/TextCharacters"), (0, .methodref 18 3), (0, .methodref 18 22), (0, .nameAndType 23 6), (0, u "open"), (0, .methodref 18 25), (0, .nameAndType 26 27), (0, u "characters"), (0, u "([CII)V"), (0, .methodref 18 29), (0, .nameAndType 30 31), (0, u "close"), (0, u "()I"), (0, .methodref 8 33), (0, .nameAndType 34 35), (0, u "ref3"), (0, u "(III)I"), (3, u "law"), (0, u "(II)Z")] 4

def k1m0 : Method := { name := "<init>", desc := "()V", sig := { parameters := [], returnType := none }, accessFlags := 1, code := none }
def k1c1 : Code := { maxStack := 2, maxLocals := 1, code := method_2_code, exceptionTable := #[], attributes := #[] }
def k1m1 : Method := { name := "sp", desc := "(I)Z", sig := { parameters := [.int], returnType := some .boolean }, accessFlags := 10, code := some k1c1 }
def k1c2 : Code := { maxStack := 2, maxLocals := 5, code := method_3_code, exceptionTable := #[], attributes := #[] }
def k1m2 : Method := { name := "ref3", desc := "(III)I", sig := { parameters := [.int, .int, .int], returnType := some .int }, accessFlags := 10, code := some k1c2 }
def k1c3 : Code := { maxStack := 4, maxLocals := 14, code := code, exceptionTable := #[], attributes := #[] }
def k1m3 : Method := { name := "law", desc := "(II)Z", sig := { parameters := [.int, .int], returnType := some .boolean }, accessFlags := 9, code := some k1c3 }
/-- com/example/einzug/einzug/core/TextCharactersClosePinLaw -/
def k1 : Class := { plain "com/example/einzug/einzug/core/TextCharactersClosePinLaw" (some 0) with
  accessFlags := 49
  interfaces := #[]
  cf := some (fileOf pool1 8 #[] #[{ accessFlags := 1, nameIndex := 5, descriptorIndex := 6, attributes := #[] }, { accessFlags := 10, nameIndex := 11, descriptorIndex := 12, attributes := #[] }, { accessFlags := 10, nameIndex := 34, descriptorIndex := 35, attributes := #[] }, { accessFlags := 9, nameIndex := 39, descriptorIndex := 40, attributes := #[] }] 49 2 #[] #[])
  fields := #[]
  methods := #[k1m0, k1m1, k1m2, k1m3]
  instanceTypes := #[]
  staticTypes := #[]
  resolved := Array.replicate 45 none
  statics := none }

def pool2 : Array CpInfo := pool [(1, .methodref 2 3), (0, .class_ 4), (0, .nameAndType 5 6), (0, u "java/lang/Object"), (0, u "<init>"), (0, u "()V"), (0, .fieldref 8 9), (0, .class_ 10), (0, .nameAndType 11 12), (0, u "com/example/einzug/einzug/core/TextCharacters"), (0, u "refused"), (0, u "[I"), (0, .fieldref 8 14), (0, .nameAndType 15 16), (0, u "started"), (0, u "[Z"), (0, .fieldref 8 18), (0, .nameAndType 19 12), (0, u "pending"), (0, .fieldref 8 21), (0, .nameAndType 22 23), (0, u "depth"), (0, u "I"), (9, .methodref 34 35), (0, .class_ 36), (0, .nameAndType 37 38), (0, u "com/example/einzug/einzug/rules/XmlCharacters"), (0, u "isSpace"), (0, u "(I)Z"), (0, .methodref 40 41), (0, .class_ 42), (0, .nameAndType 43 44), (0, u "java/lang/Character"), (0, u "codePointAt"), (0, u "([CII)I"), (0, .methodref 40 46), (0, .nameAndType 47 48), (0, u "charCount"), (0, u "(I)I"), (0, .methodref 50 51), (0, .class_ 52), (0, .nameAndType 53 38), (0, u "com/example/einzug/einzug/rules/PermittedCharacters"), (0, u "isPermitted"), (0, u "NONE"), (4, u "open"), (1, u "characters"), (0, u "([CII)V"), (2, u "close"), (0, u "()I")] 2

def k2c0 : Code := { maxStack := 2, maxLocals := 1, code := prog_145_method_1_code, exceptionTable := #[], attributes := #[] }
def k2m0 : Method := { name := "<init>", desc := "()V", sig := { parameters := [], returnType := none }, accessFlags := 0, code := some k2c0 }
def k2c1 : Code := { maxStack := 4, maxLocals := 1, code := prog_145_method_2_code, exceptionTable := #[], attributes := #[] }
def k2m1 : Method := { name := "open", desc := "()V", sig := { parameters := [], returnType := none }, accessFlags := 0, code := some k2c1 }
def k2c2 : Code := { maxStack := 3, maxLocals := 12, code := prog_145_method_3_code, exceptionTable := #[], attributes := #[] }
def k2m2 : Method := { name := "characters", desc := "([CII)V", sig := { parameters := [(.array .char), .int, .int], returnType := none }, accessFlags := 0, code := some k2c2 }
def k2c3 : Code := { maxStack := 3, maxLocals := 1, code := prog_145_method_4_code, exceptionTable := #[], attributes := #[] }
def k2m3 : Method := { name := "close", desc := "()I", sig := { parameters := [], returnType := some .int }, accessFlags := 0, code := some k2c3 }
/-- com/example/einzug/einzug/core/TextCharacters -/
def k2 : Class := { plain "com/example/einzug/einzug/core/TextCharacters" (some 0) with
  accessFlags := 48
  interfaces := #[]
  cf := some (fileOf pool2 8 #[] #[{ accessFlags := 0, nameIndex := 5, descriptorIndex := 6, attributes := #[] }, { accessFlags := 0, nameIndex := 59, descriptorIndex := 6, attributes := #[] }, { accessFlags := 0, nameIndex := 61, descriptorIndex := 62, attributes := #[] }, { accessFlags := 0, nameIndex := 65, descriptorIndex := 66, attributes := #[] }] 48 2 #[] #[{ accessFlags := 26, nameIndex := 54, descriptorIndex := 23, attributes := #[] }, { accessFlags := 2, nameIndex := 11, descriptorIndex := 12, attributes := #[] }, { accessFlags := 2, nameIndex := 15, descriptorIndex := 16, attributes := #[] }, { accessFlags := 2, nameIndex := 19, descriptorIndex := 12, attributes := #[] }, { accessFlags := 2, nameIndex := 22, descriptorIndex := 23, attributes := #[] }])
  fields := #[{ name := "NONE", type := .int, accessFlags := 26, slot := 0, constantValue := 0 }, { name := "refused", type := (.array .int), accessFlags := 2, slot := 0, constantValue := 0 }, { name := "started", type := (.array .boolean), accessFlags := 2, slot := 1, constantValue := 0 }, { name := "pending", type := (.array .int), accessFlags := 2, slot := 2, constantValue := 0 }, { name := "depth", type := .int, accessFlags := 2, slot := 3, constantValue := 0 }]
  methods := #[k2m0, k2m1, k2m2, k2m3]
  instanceTypes := #[(.array .int), (.array .boolean), (.array .int), .int]
  staticTypes := #[.int]
  resolved := Array.replicate 69 none
  statics := none }

def pool3 : Array CpInfo := pool [(2, .class_ 4), (1, u "java/lang/Object"), (0, u "<init>"), (0, u "()V"), (22, .class_ 31), (1, u "com/example/einzug/einzug/rules/XmlCharacters"), (1, u "(I)Z"), (16, u "isSpace")] 5

def k3m0 : Method := { name := "<init>", desc := "()V", sig := { parameters := [], returnType := none }, accessFlags := 2, code := none }
def k3c1 : Code := { maxStack := 2, maxLocals := 1, code := prog_200_method_2_code, exceptionTable := #[], attributes := #[] }
def k3m1 : Method := { name := "isSpace", desc := "(I)Z", sig := { parameters := [.int], returnType := some .boolean }, accessFlags := 9, code := some k3c1 }
/-- com/example/einzug/einzug/rules/XmlCharacters -/
def k3 : Class := { plain "com/example/einzug/einzug/rules/XmlCharacters" (some 0) with
  accessFlags := 49
  interfaces := #[]
  cf := some (fileOf pool3 29 #[] #[{ accessFlags := 2, nameIndex := 5, descriptorIndex := 6, attributes := #[] }, { accessFlags := 9, nameIndex := 50, descriptorIndex := 33, attributes := #[] }] 49 2 #[] #[])
  fields := #[]
  methods := #[k3m0, k3m1]
  instanceTypes := #[]
  staticTypes := #[]
  resolved := Array.replicate 56 none
  statics := none }

def pool4 : Array CpInfo := pool [(1, .class_ 2), (0, u "java/io/Serializable"), (0, .class_ 4), (0, u "java/lang/Object")] 2

/-- java/io/Serializable -/
def k4 : Class := { plain "java/io/Serializable" (some 0) with
  accessFlags := 1537
  interfaces := #[]
  cf := some (fileOf pool4 1 #[] #[] 1537 3 #[] #[])
  fields := #[]
  methods := #[]
  instanceTypes := #[]
  staticTypes := #[]
  resolved := Array.replicate 7 none
  statics := none }

def pool5 : Array CpInfo := pool [(1, .class_ 2), (0, u "java/lang/Comparable"), (0, .class_ 4), (0, u "java/lang/Object")] 7

/-- java/lang/Comparable -/
def k5 : Class := { plain "java/lang/Comparable" (some 0) with
  accessFlags := 1537
  interfaces := #[]
  cf := some (fileOf pool5 1 #[] #[] 1537 3 #[] #[])
  fields := #[]
  methods := #[]
  instanceTypes := #[]
  staticTypes := #[]
  resolved := Array.replicate 12 none
  statics := none }

def pool6 : Array CpInfo := pool [(1, .class_ 2), (0, u "java/lang/constant/Constable"), (0, .class_ 4), (0, u "java/lang/Object")] 6

/-- java/lang/constant/Constable -/
def k6 : Class := { plain "java/lang/constant/Constable" (some 0) with
  accessFlags := 1537
  interfaces := #[]
  cf := some (fileOf pool6 1 #[] #[] 1537 3 #[] #[])
  fields := #[]
  methods := #[]
  instanceTypes := #[]
  staticTypes := #[]
  resolved := Array.replicate 11 none
  statics := none }

def pool7 : Array CpInfo := pool [(1, .class_ 2), (0, u "java/lang/Character"), (18, u "value"), (0, u "C"), (19, .class_ 44), (1, u "java/lang/Object"), (3, .class_ 50), (1, u "java/lang/Character$CharacterCache"), (22, .integer 65536), (1, .integer 55296), (2, .methodref 1 79), (0, .nameAndType 80 81), (0, u "isHighSurrogate"), (0, u "(C)Z"), (18, .methodref 1 101), (0, .nameAndType 102 103), (0, u "codePointAtImpl"), (0, u "([CII)I"), (70, u "(I)I"), (109, u "$assertionsDisabled"), (0, u "Z"), (21, .class_ 309), (1, u "java/lang/Character$UnicodeBlock"), (73, u "TYPE"), (0, u "Ljava/lang/Class;"), (0, .class_ 386), (0, u "java/io/Serializable"), (0, .class_ 388), (0, u "java/lang/Comparable"), (0, .class_ 390), (0, u "java/lang/constant/Constable"), (0, u "MIN_RADIX"), (0, u "I"), (2, u "MAX_RADIX"), (1, u "MIN_VALUE"), (1, u "MAX_VALUE"), (3, u "UNASSIGNED"), (0, u "B"), (0, u "UPPERCASE_LETTER"), (1, u "LOWERCASE_LETTER"), (0, u "TITLECASE_LETTER"), (1, u "MODIFIER_LETTER"), (1, u "OTHER_LETTER"), (1, u "NON_SPACING_MARK"), (1, u "ENCLOSING_MARK"), (1, u "COMBINING_SPACING_MARK"), (1, u "DECIMAL_DIGIT_NUMBER"), (1, u "LETTER_NUMBER"), (1, u "OTHER_NUMBER"), (1, u "SPACE_SEPARATOR"), (1, u "LINE_SEPARATOR"), (1, u "PARAGRAPH_SEPARATOR"), (1, u "CONTROL"), (1, u "FORMAT"), (1, u "PRIVATE_USE"), (1, u "SURROGATE"), (1, u "DASH_PUNCTUATION"), (1, u "START_PUNCTUATION"), (1, u "END_PUNCTUATION"), (1, u "CONNECTOR_PUNCTUATION"), (1, u "OTHER_PUNCTUATION"), (1, u "MATH_SYMBOL"), (1, u "CURRENCY_SYMBOL"), (1, u "MODIFIER_SYMBOL"), (1, u "OTHER_SYMBOL"), (1, u "INITIAL_QUOTE_PUNCTUATION"), (1, u "FINAL_QUOTE_PUNCTUATION"), (1, u "ERROR"), (1, u "DIRECTIONALITY_UNDEFINED"), (0, u "DIRECTIONALITY_LEFT_TO_RIGHT"), (0, u "DIRECTIONALITY_RIGHT_TO_LEFT"), (0, u "DIRECTIONALITY_RIGHT_TO_LEFT_ARABIC"), (0, u "DIRECTIONALITY_EUROPEAN_NUMBER"), (0, u "DIRECTIONALITY_EUROPEAN_NUMBER_SEPARATOR"), (0, u "DIRECTIONALITY_EUROPEAN_NUMBER_TERMINATOR"), (0, u "DIRECTIONALITY_ARABIC_NUMBER"), (0, u "DIRECTIONALITY_COMMON_NUMBER_SEPARATOR"), (0, u "DIRECTIONALITY_NONSPACING_MARK"), (0, u "DIRECTIONALITY_BOUNDARY_NEUTRAL"), (0, u "DIRECTIONALITY_PARAGRAPH_SEPARATOR"), (0, u "DIRECTIONALITY_SEGMENT_SEPARATOR"), (0, u "DIRECTIONALITY_WHITESPACE"), (0, u "DIRECTIONALITY_OTHER_NEUTRALS"), (0, u "DIRECTIONALITY_LEFT_TO_RIGHT_EMBEDDING"), (0, u "DIRECTIONALITY_LEFT_TO_RIGHT_OVERRIDE"), (0, u "DIRECTIONALITY_RIGHT_TO_LEFT_EMBEDDING"), (0, u "DIRECTIONALITY_RIGHT_TO_LEFT_OVERRIDE"), (1, u "DIRECTIONALITY_POP_DIRECTIONAL_FORMAT"), (0, u "DIRECTIONALITY_LEFT_TO_RIGHT_ISOLATE"), (0, u "DIRECTIONALITY_RIGHT_TO_LEFT_ISOLATE"), (0, u "DIRECTIONALITY_FIRST_STRONG_ISOLATE"), (0, u "DIRECTIONALITY_POP_DIRECTIONAL_ISOLATE"), (0, u "MIN_HIGH_SURROGATE"), (0, u "MAX_HIGH_SURROGATE"), (1, u "MIN_LOW_SURROGATE"), (0, u "MAX_LOW_SURROGATE"), (1, u "MIN_SURROGATE"), (0, u "MAX_SURROGATE"), (0, u "MIN_SUPPLEMENTARY_CODE_POINT"), (0, u "MIN_CODE_POINT"), (0, u "MAX_CODE_POINT"), (1, u "serialVersionUID"), (0, u "J"), (2, u "SIZE"), (0, u "BYTES"), (29, u "charCount"), (0, u "codePointAt"), (57, .class_ 596), (0, u "java/lang/Character$UnicodeScript"), (0, .class_ 598), (0, u "java/lang/Character$Subset")] 5

def k7c0 : Code := { maxStack := 2, maxLocals := 1, code := jdk_89_method_14_code, exceptionTable := #[], attributes := #[] }
def k7m0 : Method := { name := "isHighSurrogate", desc := "(C)Z", sig := { parameters := [.char], returnType := some .boolean }, accessFlags := 9, code := some k7c0 }
def k7c1 : Code := { maxStack := 2, maxLocals := 1, code := jdk_89_method_18_code, exceptionTable := #[], attributes := #[] }
def k7m1 : Method := { name := "charCount", desc := "(I)I", sig := { parameters := [.int], returnType := some .int }, accessFlags := 9, code := some k7c1 }
def k7c2 : Code := { maxStack := 3, maxLocals := 3, code := jdk_89_method_22_code, exceptionTable := #[], attributes := #[] }
def k7m2 : Method := { name := "codePointAt", desc := "([CII)I", sig := { parameters := [(.array .char), .int, .int], returnType := some .int }, accessFlags := 9, code := some k7c2 }
def k7c3 : Code := { maxStack := 2, maxLocals := 5, code := jdk_89_method_23_code, exceptionTable := #[], attributes := #[] }
def k7m3 : Method := { name := "codePointAtImpl", desc := "([CII)I", sig := { parameters := [(.array .char), .int, .int], returnType := some .int }, accessFlags := 8, code := some k7c3 }
/-- java/lang/Character -/
def k7 : Class := { plain "java/lang/Character" (some 0) with
  accessFlags := 49
  interfaces := #[4, 5, 6]
  cf := some (fileOf pool7 1 #[.nestMembers #[48, 595, 307, 597]] #[{ accessFlags := 9, nameIndex := 80, descriptorIndex := 81, attributes := #[] }, { accessFlags := 9, nameIndex := 536, descriptorIndex := 174, attributes := #[] }, { accessFlags := 9, nameIndex := 537, descriptorIndex := 103, attributes := #[] }, { accessFlags := 8, nameIndex := 102, descriptorIndex := 103, attributes := #[] }] 49 42 #[385, 387, 389] #[{ accessFlags := 25, nameIndex := 391, descriptorIndex := 392, attributes := #[] }, { accessFlags := 25, nameIndex := 395, descriptorIndex := 392, attributes := #[] }, { accessFlags := 25, nameIndex := 397, descriptorIndex := 22, attributes := #[] }, { accessFlags := 25, nameIndex := 399, descriptorIndex := 22, attributes := #[] }, { accessFlags := 25, nameIndex := 383, descriptorIndex := 384, attributes := #[] }, { accessFlags := 25, nameIndex := 403, descriptorIndex := 404, attributes := #[] }, { accessFlags := 25, nameIndex := 405, descriptorIndex := 404, attributes := #[] }, { accessFlags := 25, nameIndex := 407, descriptorIndex := 404, attributes := #[] }, { accessFlags := 25, nameIndex := 408, descriptorIndex := 404, attributes := #[] }, { accessFlags := 25, nameIndex := 410, descriptorIndex := 404, attributes := #[] }, { accessFlags := 25, nameIndex := 412, descriptorIndex := 404, attributes := #[] }, { accessFlags := 25, nameIndex := 414, descriptorIndex := 404, attributes := #[] }, { accessFlags := 25, nameIndex := 416, descriptorIndex := 404, attributes := #[] }, { accessFlags := 25, nameIndex := 418, descriptorIndex := 404, attributes := #[] }, { accessFlags := 25, nameIndex := 420, descriptorIndex := 404, attributes := #[] }, { accessFlags := 25, nameIndex := 422, descriptorIndex := 404, attributes := #[] }, { accessFlags := 25, nameIndex := 424, descriptorIndex := 404, attributes := #[] }, { accessFlags := 25, nameIndex := 426, descriptorIndex := 404, attributes := #[] }, { accessFlags := 25, nameIndex := 428, descriptorIndex := 404, attributes := #[] }, { accessFlags := 25, nameIndex := 430, descriptorIndex := 404, attributes := #[] }, { accessFlags := 25, nameIndex := 432, descriptorIndex := 404, attributes := #[] }, { accessFlags := 25, nameIndex := 434, descriptorIndex := 404, attributes := #[] }, { accessFlags := 25, nameIndex := 436, descriptorIndex := 404, attributes := #[] }, { accessFlags := 25, nameIndex := 438, descriptorIndex := 404, attributes := #[] }, { accessFlags := 25, nameIndex := 440, descriptorIndex := 404, attributes := #[] }, { accessFlags := 25, nameIndex := 442, descriptorIndex := 404, attributes := #[] }, { accessFlags := 25, nameIndex := 444, descriptorIndex := 404, attributes := #[] }, { accessFlags := 25, nameIndex := 446, descriptorIndex := 404, attributes := #[] }, { accessFlags := 25, nameIndex := 448, descriptorIndex := 404, attributes := #[] }, { accessFlags := 25, nameIndex := 450, descriptorIndex := 404, attributes := #[] }, { accessFlags := 25, nameIndex := 452, descriptorIndex := 404, attributes := #[] }, { accessFlags := 25, nameIndex := 454, descriptorIndex := 404, attributes := #[] }, { accessFlags := 25, nameIndex := 456, descriptorIndex := 404, attributes := #[] }, { accessFlags := 25, nameIndex := 458, descriptorIndex := 404, attributes := #[] }, { accessFlags := 25, nameIndex := 460, descriptorIndex := 404, attributes := #[] }, { accessFlags := 24, nameIndex := 462, descriptorIndex := 392, attributes := #[] }, { accessFlags := 25, nameIndex := 464, descriptorIndex := 404, attributes := #[] }, { accessFlags := 25, nameIndex := 465, descriptorIndex := 404, attributes := #[] }, { accessFlags := 25, nameIndex := 466, descriptorIndex := 404, attributes := #[] }, { accessFlags := 25, nameIndex := 467, descriptorIndex := 404, attributes := #[] }, { accessFlags := 25, nameIndex := 468, descriptorIndex := 404, attributes := #[] }, { accessFlags := 25, nameIndex := 469, descriptorIndex := 404, attributes := #[] }, { accessFlags := 25, nameIndex := 470, descriptorIndex := 404, attributes := #[] }, { accessFlags := 25, nameIndex := 471, descriptorIndex := 404, attributes := #[] }, { accessFlags := 25, nameIndex := 472, descriptorIndex := 404, attributes := #[] }, { accessFlags := 25, nameIndex := 473, descriptorIndex := 404, attributes := #[] }, { accessFlags := 25, nameIndex := 474, descriptorIndex := 404, attributes := #[] }, { accessFlags := 25, nameIndex := 475, descriptorIndex := 404, attributes := #[] }, { accessFlags := 25, nameIndex := 476, descriptorIndex := 404, attributes := #[] }, { accessFlags := 25, nameIndex := 477, descriptorIndex := 404, attributes := #[] }, { accessFlags := 25, nameIndex := 478, descriptorIndex := 404, attributes := #[] }, { accessFlags := 25, nameIndex := 479, descriptorIndex := 404, attributes := #[] }, { accessFlags := 25, nameIndex := 480, descriptorIndex := 404, attributes := #[] }, { accessFlags := 25, nameIndex := 481, descriptorIndex := 404, attributes := #[] }, { accessFlags := 25, nameIndex := 482, descriptorIndex := 404, attributes := #[] }, { accessFlags := 25, nameIndex := 484, descriptorIndex := 404, attributes := #[] }, { accessFlags := 25, nameIndex := 485, descriptorIndex := 404, attributes := #[] }, { accessFlags := 25, nameIndex := 486, descriptorIndex := 404, attributes := #[] }, { accessFlags := 25, nameIndex := 487, descriptorIndex := 404, attributes := #[] }, { accessFlags := 25, nameIndex := 488, descriptorIndex := 404, attributes := #[] }, { accessFlags := 25, nameIndex := 489, descriptorIndex := 22, attributes := #[] }, { accessFlags := 25, nameIndex := 490, descriptorIndex := 22, attributes := #[] }, { accessFlags := 25, nameIndex := 492, descriptorIndex := 22, attributes := #[] }, { accessFlags := 25, nameIndex := 493, descriptorIndex := 22, attributes := #[] }, { accessFlags := 25, nameIndex := 495, descriptorIndex := 22, attributes := #[] }, { accessFlags := 25, nameIndex := 496, descriptorIndex := 22, attributes := #[] }, { accessFlags := 25, nameIndex := 497, descriptorIndex := 392, attributes := #[] }, { accessFlags := 25, nameIndex := 498, descriptorIndex := 392, attributes := #[] }, { accessFlags := 25, nameIndex := 499, descriptorIndex := 392, attributes := #[] }, { accessFlags := 18, nameIndex := 21, descriptorIndex := 22, attributes := #[] }, { accessFlags := 26, nameIndex := 501, descriptorIndex := 502, attributes := #[] }, { accessFlags := 25, nameIndex := 505, descriptorIndex := 392, attributes := #[] }, { accessFlags := 25, nameIndex := 506, descriptorIndex := 392, attributes := #[] }, { accessFlags := 4120, nameIndex := 284, descriptorIndex := 285, attributes := #[] }])
  fields := #[{ name := "MIN_RADIX", type := .int, accessFlags := 25, slot := 0, constantValue := 0 }, { name := "MAX_RADIX", type := .int, accessFlags := 25, slot := 1, constantValue := 0 }, { name := "MIN_VALUE", type := .char, accessFlags := 25, slot := 2, constantValue := 0 }, { name := "MAX_VALUE", type := .char, accessFlags := 25, slot := 3, constantValue := 0 }, { name := "TYPE", type := (.object "java/lang/Class"), accessFlags := 25, slot := 4, constantValue := 0 }, { name := "UNASSIGNED", type := .byte, accessFlags := 25, slot := 5, constantValue := 0 }, { name := "UPPERCASE_LETTER", type := .byte, accessFlags := 25, slot := 6, constantValue := 0 }, { name := "LOWERCASE_LETTER", type := .byte, accessFlags := 25, slot := 7, constantValue := 0 }, { name := "TITLECASE_LETTER", type := .byte, accessFlags := 25, slot := 8, constantValue := 0 }, { name := "MODIFIER_LETTER", type := .byte, accessFlags := 25, slot := 9, constantValue := 0 }, { name := "OTHER_LETTER", type := .byte, accessFlags := 25, slot := 10, constantValue := 0 }, { name := "NON_SPACING_MARK", type := .byte, accessFlags := 25, slot := 11, constantValue := 0 }, { name := "ENCLOSING_MARK", type := .byte, accessFlags := 25, slot := 12, constantValue := 0 }, { name := "COMBINING_SPACING_MARK", type := .byte, accessFlags := 25, slot := 13, constantValue := 0 }, { name := "DECIMAL_DIGIT_NUMBER", type := .byte, accessFlags := 25, slot := 14, constantValue := 0 }, { name := "LETTER_NUMBER", type := .byte, accessFlags := 25, slot := 15, constantValue := 0 }, { name := "OTHER_NUMBER", type := .byte, accessFlags := 25, slot := 16, constantValue := 0 }, { name := "SPACE_SEPARATOR", type := .byte, accessFlags := 25, slot := 17, constantValue := 0 }, { name := "LINE_SEPARATOR", type := .byte, accessFlags := 25, slot := 18, constantValue := 0 }, { name := "PARAGRAPH_SEPARATOR", type := .byte, accessFlags := 25, slot := 19, constantValue := 0 }, { name := "CONTROL", type := .byte, accessFlags := 25, slot := 20, constantValue := 0 }, { name := "FORMAT", type := .byte, accessFlags := 25, slot := 21, constantValue := 0 }, { name := "PRIVATE_USE", type := .byte, accessFlags := 25, slot := 22, constantValue := 0 }, { name := "SURROGATE", type := .byte, accessFlags := 25, slot := 23, constantValue := 0 }, { name := "DASH_PUNCTUATION", type := .byte, accessFlags := 25, slot := 24, constantValue := 0 }, { name := "START_PUNCTUATION", type := .byte, accessFlags := 25, slot := 25, constantValue := 0 }, { name := "END_PUNCTUATION", type := .byte, accessFlags := 25, slot := 26, constantValue := 0 }, { name := "CONNECTOR_PUNCTUATION", type := .byte, accessFlags := 25, slot := 27, constantValue := 0 }, { name := "OTHER_PUNCTUATION", type := .byte, accessFlags := 25, slot := 28, constantValue := 0 }, { name := "MATH_SYMBOL", type := .byte, accessFlags := 25, slot := 29, constantValue := 0 }, { name := "CURRENCY_SYMBOL", type := .byte, accessFlags := 25, slot := 30, constantValue := 0 }, { name := "MODIFIER_SYMBOL", type := .byte, accessFlags := 25, slot := 31, constantValue := 0 }, { name := "OTHER_SYMBOL", type := .byte, accessFlags := 25, slot := 32, constantValue := 0 }, { name := "INITIAL_QUOTE_PUNCTUATION", type := .byte, accessFlags := 25, slot := 33, constantValue := 0 }, { name := "FINAL_QUOTE_PUNCTUATION", type := .byte, accessFlags := 25, slot := 34, constantValue := 0 }, { name := "ERROR", type := .int, accessFlags := 24, slot := 35, constantValue := 0 }, { name := "DIRECTIONALITY_UNDEFINED", type := .byte, accessFlags := 25, slot := 36, constantValue := 0 }, { name := "DIRECTIONALITY_LEFT_TO_RIGHT", type := .byte, accessFlags := 25, slot := 37, constantValue := 0 }, { name := "DIRECTIONALITY_RIGHT_TO_LEFT", type := .byte, accessFlags := 25, slot := 38, constantValue := 0 }, { name := "DIRECTIONALITY_RIGHT_TO_LEFT_ARABIC", type := .byte, accessFlags := 25, slot := 39, constantValue := 0 }, { name := "DIRECTIONALITY_EUROPEAN_NUMBER", type := .byte, accessFlags := 25, slot := 40, constantValue := 0 }, { name := "DIRECTIONALITY_EUROPEAN_NUMBER_SEPARATOR", type := .byte, accessFlags := 25, slot := 41, constantValue := 0 }, { name := "DIRECTIONALITY_EUROPEAN_NUMBER_TERMINATOR", type := .byte, accessFlags := 25, slot := 42, constantValue := 0 }, { name := "DIRECTIONALITY_ARABIC_NUMBER", type := .byte, accessFlags := 25, slot := 43, constantValue := 0 }, { name := "DIRECTIONALITY_COMMON_NUMBER_SEPARATOR", type := .byte, accessFlags := 25, slot := 44, constantValue := 0 }, { name := "DIRECTIONALITY_NONSPACING_MARK", type := .byte, accessFlags := 25, slot := 45, constantValue := 0 }, { name := "DIRECTIONALITY_BOUNDARY_NEUTRAL", type := .byte, accessFlags := 25, slot := 46, constantValue := 0 }, { name := "DIRECTIONALITY_PARAGRAPH_SEPARATOR", type := .byte, accessFlags := 25, slot := 47, constantValue := 0 }, { name := "DIRECTIONALITY_SEGMENT_SEPARATOR", type := .byte, accessFlags := 25, slot := 48, constantValue := 0 }, { name := "DIRECTIONALITY_WHITESPACE", type := .byte, accessFlags := 25, slot := 49, constantValue := 0 }, { name := "DIRECTIONALITY_OTHER_NEUTRALS", type := .byte, accessFlags := 25, slot := 50, constantValue := 0 }, { name := "DIRECTIONALITY_LEFT_TO_RIGHT_EMBEDDING", type := .byte, accessFlags := 25, slot := 51, constantValue := 0 }, { name := "DIRECTIONALITY_LEFT_TO_RIGHT_OVERRIDE", type := .byte, accessFlags := 25, slot := 52, constantValue := 0 }, { name := "DIRECTIONALITY_RIGHT_TO_LEFT_EMBEDDING", type := .byte, accessFlags := 25, slot := 53, constantValue := 0 }, { name := "DIRECTIONALITY_RIGHT_TO_LEFT_OVERRIDE", type := .byte, accessFlags := 25, slot := 54, constantValue := 0 }, { name := "DIRECTIONALITY_POP_DIRECTIONAL_FORMAT", type := .byte, accessFlags := 25, slot := 55, constantValue := 0 }, { name := "DIRECTIONALITY_LEFT_TO_RIGHT_ISOLATE", type := .byte, accessFlags := 25, slot := 56, constantValue := 0 }, { name := "DIRECTIONALITY_RIGHT_TO_LEFT_ISOLATE", type := .byte, accessFlags := 25, slot := 57, constantValue := 0 }, { name := "DIRECTIONALITY_FIRST_STRONG_ISOLATE", type := .byte, accessFlags := 25, slot := 58, constantValue := 0 }, { name := "DIRECTIONALITY_POP_DIRECTIONAL_ISOLATE", type := .byte, accessFlags := 25, slot := 59, constantValue := 0 }, { name := "MIN_HIGH_SURROGATE", type := .char, accessFlags := 25, slot := 60, constantValue := 0 }, { name := "MAX_HIGH_SURROGATE", type := .char, accessFlags := 25, slot := 61, constantValue := 0 }, { name := "MIN_LOW_SURROGATE", type := .char, accessFlags := 25, slot := 62, constantValue := 0 }, { name := "MAX_LOW_SURROGATE", type := .char, accessFlags := 25, slot := 63, constantValue := 0 }, { name := "MIN_SURROGATE", type := .char, accessFlags := 25, slot := 64, constantValue := 0 }, { name := "MAX_SURROGATE", type := .char, accessFlags := 25, slot := 65, constantValue := 0 }, { name := "MIN_SUPPLEMENTARY_CODE_POINT", type := .int, accessFlags := 25, slot := 66, constantValue := 0 }, { name := "MIN_CODE_POINT", type := .int, accessFlags := 25, slot := 67, constantValue := 0 }, { name := "MAX_CODE_POINT", type := .int, accessFlags := 25, slot := 68, constantValue := 0 }, { name := "value", type := .char, accessFlags := 18, slot := 0, constantValue := 0 }, { name := "serialVersionUID", type := .long, accessFlags := 26, slot := 69, constantValue := 0 }, { name := "SIZE", type := .int, accessFlags := 25, slot := 70, constantValue := 0 }, { name := "BYTES", type := .int, accessFlags := 25, slot := 71, constantValue := 0 }, { name := "$assertionsDisabled", type := .boolean, accessFlags := 4120, slot := 72, constantValue := 0 }]
  methods := #[k7m0, k7m1, k7m2, k7m3]
  instanceTypes := #[.char]
  staticTypes := #[.int, .int, .char, .char, (.object "java/lang/Class"), .byte, .byte, .byte, .byte, .byte, .byte, .byte, .byte, .byte, .byte, .byte, .byte, .byte, .byte, .byte, .byte, .byte, .byte, .byte, .byte, .byte, .byte, .byte, .byte, .byte, .byte, .byte, .byte, .byte, .byte, .int, .byte, .byte, .byte, .byte, .byte, .byte, .byte, .byte, .byte, .byte, .byte, .byte, .byte, .byte, .byte, .byte, .byte, .byte, .byte, .byte, .byte, .byte, .byte, .byte, .char, .char, .char, .char, .char, .char, .int, .int, .int, .long, .int, .int, .boolean]
  resolved := Array.replicate 604 none
  statics := none }

def pool8 : Array CpInfo := pool [(2, .class_ 4), (1, u "java/lang/Object"), (0, u "<init>"), (0, u "()V"), (0, .fieldref 8 9), (0, .class_ 10), (0, .nameAndType 11 12), (0, u "com/example/einzug/einzug/rules/PermittedCharacters"), (0, u "PERMITTED"), (0, u "[Z"), (12, u "isPermitted"), (0, u "(I)Z")] 87

def k8m0 : Method := { name := "<init>", desc := "()V", sig := { parameters := [], returnType := none }, accessFlags := 2, code := none }
def k8c1 : Code := { maxStack := 2, maxLocals := 1, code := prog_185_method_2_code, exceptionTable := #[], attributes := #[] }
def k8m1 : Method := { name := "isPermitted", desc := "(I)Z", sig := { parameters := [.int], returnType := some .boolean }, accessFlags := 9, code := some k8c1 }
/-- com/example/einzug/einzug/rules/PermittedCharacters -/
def k8 : Class := { plain "com/example/einzug/einzug/rules/PermittedCharacters" (some 0) with
  accessFlags := 49
  interfaces := #[]
  cf := some (fileOf pool8 8 #[] #[{ accessFlags := 2, nameIndex := 5, descriptorIndex := 6, attributes := #[] }, { accessFlags := 9, nameIndex := 25, descriptorIndex := 26, attributes := #[] }] 49 2 #[] #[{ accessFlags := 26, nameIndex := 11, descriptorIndex := 12, attributes := #[] }])
  fields := #[{ name := "PERMITTED", type := (.array .boolean), accessFlags := 26, slot := 0, constantValue := 0 }]
  methods := #[k8m0, k8m1]
  instanceTypes := #[]
  staticTypes := #[(.array .boolean)]
  resolved := Array.replicate 114 none
  statics := some 0 }

def pool9 : Array CpInfo := pool [(1, u "java/lang/Cloneable"), (0, .class_ 1), (0, u "java/lang/Object"), (0, .class_ 3)] 3

/-- java/lang/Cloneable -/
def k9 : Class := { plain "java/lang/Cloneable" (some 0) with
  accessFlags := 1537
  interfaces := #[]
  cf := some (fileOf pool9 2 #[] #[] 1537 4 #[] #[])
  fields := #[]
  methods := #[]
  instanceTypes := #[]
  staticTypes := #[]
  resolved := Array.replicate 8 none
  statics := none }

/-- the primitive boolean -/
def k10 : Class := { plain "boolean" none with kind := .primitive 'Z', accessFlags := 0x411 }
/-- [Z -/
def k11 : Class := { plain "[Z" (some 0) with kind := .array 10 .boolean, interfaces := #[9, 4], accessFlags := 1041 }

/-- the primitive byte -/
def k12 : Class := { plain "byte" none with kind := .primitive 'B', accessFlags := 0x411 }
/-- [B -/
def k13 : Class := { plain "[B" (some 0) with kind := .array 12 .byte, interfaces := #[9, 4], accessFlags := 1041 }

/-- the primitive char -/
def k14 : Class := { plain "char" none with kind := .primitive 'C', accessFlags := 0x411 }
/-- [C -/
def k15 : Class := { plain "[C" (some 0) with kind := .array 14 .char, interfaces := #[9, 4], accessFlags := 1041 }

/-- the primitive int -/
def k16 : Class := { plain "int" none with kind := .primitive 'I', accessFlags := 0x411 }
/-- [I -/
def k17 : Class := { plain "[I" (some 0) with kind := .array 16 .int, interfaces := #[9, 4], accessFlags := 1041 }

def heap : Heap := #[{ cls := 8, slots := #[.ref 1], vm := .statics 8 },
  { cls := 11, slots := #[.int 0, .int 0, .int 0, .int 0, .int 0, .int 0, .int 0, .int 0, .int 0, .int 0, .int 0, .int 0, .int 0, .int 0, .int 0, .int 0, .int 0, .int 0, .int 0, .int 0, .int 0, .int 0, .int 0, .int 0, .int 0, .int 0, .int 0, .int 0, .int 0, .int 0, .int 0, .int 0, .int 1, .int 1, .int 1, .int 1, .int 1, .int 1, .int 1, .int 1, .int 1, .int 1, .int 1, .int 1, .int 1, .int 1, .int 1, .int 1, .int 1, .int 1, .int 1, .int 1, .int 1, .int 1, .int 1, .int 1, .int 1, .int 1, .int 1, .int 1, .int 1, .int 1, .int 1, .int 1, .int 1, .int 1, .int 1, .int 1, .int 1, .int 1, .int 1, .int 1, .int 1, .int 1, .int 1, .int 1, .int 1, .int 1, .int 1, .int 1, .int 1, .int 1, .int 1, .int 1, .int 1, .int 1, .int 1, .int 1, .int 1, .int 1, .int 1, .int 1, .int 1, .int 1, .int 0, .int 1, .int 1, .int 1, .int 1, .int 1, .int 1, .int 1, .int 1, .int 1, .int 1, .int 1, .int 1, .int 1, .int 1, .int 1, .int 1, .int 1, .int 1, .int 1, .int 1, .int 1, .int 1, .int 1, .int 1, .int 1, .int 1, .int 1, .int 1, .int 1, .int 0, .int 1, .int 1, .int 0, .int 0, .int 0, .int 0, .int 0, .int 0, .int 0, .int 0, .int 0, .int 0, .int 0, .int 0, .int 0, .int 0, .int 0, .int 0, .int 0, .int 0, .int 0, .int 0, .int 0, .int 0, .int 0, .int 0, .int 0, .int 0, .int 0, .int 0, .int 0, .int 0, .int 0, .int 0, .int 0, .int 0, .int 0, .int 0, .int 1, .int 0, .int 0, .int 0, .int 0, .int 0, .int 0, .int 0, .int 0, .int 0, .int 0, .int 0, .int 0, .int 0, .int 0, .int 0, .int 0, .int 1, .int 0, .int 0, .int 0, .int 0, .int 0, .int 0, .int 0, .int 0, .int 0, .int 0, .int 0, .int 1, .int 1, .int 1, .int 0, .int 1, .int 0, .int 0, .int 1, .int 1, .int 1, .int 1, .int 1, .int 1, .int 1, .int 1, .int 1, .int 0, .int 1, .int 1, .int 1, .int 1, .int 0, .int 1, .int 0, .int 0, .int 1, .int 1, .int 1, .int 1, .int 0, .int 0, .int 1, .int 1, .int 1, .int 1, .int 0, .int 1, .int 0, .int 0, .int 1, .int 1, .int 1, .int 1, .int 1, .int 1, .int 1, .int 1, .int 1, .int 0, .int 1, .int 1, .int 1, .int 1, .int 0, .int 1, .int 1, .int 0, .int 1, .int 1, .int 1, .int 1, .int 1, .int 0, .int 0], vm := .none }]
def classes : Array Class := #[k0, k1, k2, k3, k4, k5, k6, k7, k8, k9, k10, k11, k12, k13, k14, k15, k16, k17]
def interned : List (Array UInt16 × Addr) := []
def slotsUsed : Nat := 257
def theMethod : MethodId := ⟨1, 3⟩
def args0 : Array Value := #[.int 5, .int 1]
def aboutOver (below : List Frame) : State where
  vm := { classes := classes, interned := interned.toArray }
  heap := heap
  slotsUsed := slotsUsed
  threads := #[{ frames := .invoking theMethod args0 :: below }]
def below0 : List Frame := [.native { method := ⟨0, 0⟩, args := #[] }]
def about1 : State := aboutOver below0
def p0 : Program := .bare "" "" ""
def e0 : Env := launch0.env 0 0 0
theorem w_frames : about1.frames = Frame.invoking theMethod args0 :: below0 := rfl
set_option maxRecDepth 65536 in
theorem w_args : argsFit about1.vm theMethod args0 = true := by decide +kernel
set_option maxRecDepth 65536 in
theorem w_heap : heapFits about1 = true := by decide +kernel
set_option maxRecDepth 65536 in
theorem w_runnable : about1.curStatus? = some .runnable := by decide +kernel
set_option maxRecDepth 65536 in
theorem w_alone : about1.alone = true := by decide +kernel
set_option maxRecDepth 65536 in
theorem w_named : about1.methodNamed? x = some theMethod := by decide +kernel
set_option maxRecDepth 65536 in
theorem w_hears : about1.hears theMethod below0 = true := by decide +kernel
set_option maxRecDepth 65536 in
theorem w_ripe : about1.ripe theMethod args0 below0 = true := by decide +kernel
theorem w_running : about1.status = .running := rfl
set_option maxRecDepth 65536 in
theorem w_room : about1.hasRoom e0.platform room_1 = true :=
  launch0.hasRoom_least _ room_1 (by decide +kernel) (by decide +kernel) (by decide +kernel) (by decide +kernel) (by decide +kernel) (by decide +kernel)
theorem allAtoms_all (ts : List Jvm.Cond) (a : Array Jvm.Value) (st : Jvm.State) : (allAtoms ts).before a st = ts.all (fun c => c.before a st) := by
  induction ts with
  | nil => rfl
  | cons c t ih =>
    show (Jvm.Cond.and c (allAtoms t)).before a st = _
    rw [Jvm.Cond.before_and, ih, List.all_cons]
def words1 : List Jvm.Cond := Jvm.Cond.code x code maxLocals ret :: tables_1
/-- a 'code' word, met by the world's own term for the bytes: nothing is compared byte by byte -/
theorem code_word {y : MethodName} {bytes : ByteArray} {mx : Nat} {rt : Option FieldType} {a : Array Value} {s : State} {m : MethodId} {meth : Method} {c : Code} (h1 : s.methodNamed? y = some m) (h2 : s.vm.method? m = some meth) (h3 : meth.code = some c) (h4 : c.code = bytes)
    (h5 : (c.maxLocals == mx && c.exceptionTable.isEmpty && decide (c.maxStack ≤ mostOperands) && decide (meth.sig.returnType = rt) && !meth.locks && decide (parseMethodDescriptor y.desc = some meth.sig)) = true) : (Jvm.Cond.code y bytes mx rt).before a s = true := by
  simp only [Bool.and_eq_true, beq_iff_eq, Bool.not_eq_true', decide_eq_true_eq] at h5
  obtain ⟨⟨⟨⟨⟨g1, g2⟩, g3⟩, g4⟩, g5⟩, g6⟩ := h5
  simp [Cond.before, Cond.holds, Cond.value, h1, h2, h3, h4, g1, g2, g3, g4, g5, g6]
def isCode : Jvm.Cond → Bool
  | .code _ _ _ _ => true
  | _ => false
theorem all_split {L : List Jvm.Cond} {P : Jvm.Cond → Bool} (h1 : L.all (fun c => isCode c || P c) = true) (h2 : ∀ c ∈ L.filter isCode, P c = true) : L.all P = true := by
  refine List.all_eq_true.mpr fun c hc => ?_
  have h := List.all_eq_true.mp h1 c hc
  rcases Bool.eq_false_or_eq_true (isCode c) with hi | hi
  · exact h2 c (List.mem_filter.mpr ⟨hc, hi⟩)
  · simpa [hi] using h
set_option maxRecDepth 65536 in
theorem w_c0 : (Jvm.Cond.code x code maxLocals ret).before args0 about1 = true := code_word (m := ⟨1, 3⟩) (meth := k1m3) (c := k1c3) (by decide +kernel) rfl rfl rfl (by decide +kernel)
set_option maxRecDepth 65536 in
theorem w_c1 : (Jvm.Cond.code ({ cls := "com/example/einzug/einzug/core/TextCharacters", name := "<init>", desc := "()V" } : Jvm.MethodName) prog_145_method_1_code (1 : Nat) (Option.none : Option Jvm.ClassFile.FieldType)).before args0 about1 = true := code_word (m := ⟨2, 0⟩) (meth := k2m0) (c := k2c0) (by decide +kernel) rfl rfl rfl (by decide +kernel)
set_option maxRecDepth 65536 in
theorem w_c2 : (Jvm.Cond.code ({ cls := "java/lang/Object", name := "<init>", desc := "()V" } : Jvm.MethodName) object_method_1_code (1 : Nat) (Option.none : Option Jvm.ClassFile.FieldType)).before args0 about1 = true := code_word (m := ⟨0, 0⟩) (meth := k0m0) (c := k0c0) (by decide +kernel) rfl rfl rfl (by decide +kernel)
set_option maxRecDepth 65536 in
theorem w_c3 : (Jvm.Cond.code ({ cls := "com/example/einzug/einzug/core/TextCharacters", name := "open", desc := "()V" } : Jvm.MethodName) prog_145_method_2_code (1 : Nat) (Option.none : Option Jvm.ClassFile.FieldType)).before args0 about1 = true := code_word (m := ⟨2, 1⟩) (meth := k2m1) (c := k2c1) (by decide +kernel) rfl rfl rfl (by decide +kernel)
set_option maxRecDepth 65536 in
theorem w_c4 : (Jvm.Cond.code ({ cls := "com/example/einzug/einzug/core/TextCharacters", name := "characters", desc := "([CII)V" } : Jvm.MethodName) prog_145_method_3_code (12 : Nat) (Option.none : Option Jvm.ClassFile.FieldType)).before args0 about1 = true := code_word (m := ⟨2, 2⟩) (meth := k2m2) (c := k2c2) (by decide +kernel) rfl rfl rfl (by decide +kernel)
set_option maxRecDepth 65536 in
theorem w_c5 : (Jvm.Cond.code ({ cls := "com/example/einzug/einzug/rules/XmlCharacters", name := "isSpace", desc := "(I)Z" } : Jvm.MethodName) prog_200_method_2_code (1 : Nat) (Option.some Jvm.ClassFile.FieldType.boolean)).before args0 about1 = true := code_word (m := ⟨3, 1⟩) (meth := k3m1) (c := k3c1) (by decide +kernel) rfl rfl rfl (by decide +kernel)
set_option maxRecDepth 65536 in
theorem w_c6 : (Jvm.Cond.code ({ cls := "java/lang/Character", name := "codePointAt", desc := "([CII)I" } : Jvm.MethodName) jdk_89_method_22_code (3 : Nat) (Option.some Jvm.ClassFile.FieldType.int)).before args0 about1 = true := code_word (m := ⟨7, 2⟩) (meth := k7m2) (c := k7c2) (by decide +kernel) rfl rfl rfl (by decide +kernel)
set_option maxRecDepth 65536 in
theorem w_c7 : (Jvm.Cond.code ({ cls := "java/lang/Character", name := "codePointAtImpl", desc := "([CII)I" } : Jvm.MethodName) jdk_89_method_23_code (5 : Nat) (Option.some Jvm.ClassFile.FieldType.int)).before args0 about1 = true := code_word (m := ⟨7, 3⟩) (meth := k7m3) (c := k7c3) (by decide +kernel) rfl rfl rfl (by decide +kernel)
set_option maxRecDepth 65536 in
theorem w_c8 : (Jvm.Cond.code ({ cls := "java/lang/Character", name := "isHighSurrogate", desc := "(C)Z" } : Jvm.MethodName) jdk_89_method_14_code (1 : Nat) (Option.some Jvm.ClassFile.FieldType.boolean)).before args0 about1 = true := code_word (m := ⟨7, 0⟩) (meth := k7m0) (c := k7c0) (by decide +kernel) rfl rfl rfl (by decide +kernel)
set_option maxRecDepth 65536 in
theorem w_c9 : (Jvm.Cond.code ({ cls := "java/lang/Character", name := "charCount", desc := "(I)I" } : Jvm.MethodName) jdk_89_method_18_code (1 : Nat) (Option.some Jvm.ClassFile.FieldType.int)).before args0 about1 = true := code_word (m := ⟨7, 1⟩) (meth := k7m1) (c := k7c1) (by decide +kernel) rfl rfl rfl (by decide +kernel)
set_option maxRecDepth 65536 in
theorem w_c10 : (Jvm.Cond.code ({ cls := "com/example/einzug/einzug/rules/PermittedCharacters", name := "isPermitted", desc := "(I)Z" } : Jvm.MethodName) prog_185_method_2_code (1 : Nat) (Option.some Jvm.ClassFile.FieldType.boolean)).before args0 about1 = true := code_word (m := ⟨8, 1⟩) (meth := k8m1) (c := k8c1) (by decide +kernel) rfl rfl rfl (by decide +kernel)
set_option maxRecDepth 65536 in
theorem w_c11 : (Jvm.Cond.code ({ cls := "com/example/einzug/einzug/core/TextCharacters", name := "close", desc := "()I" } : Jvm.MethodName) prog_145_method_4_code (1 : Nat) (Option.some Jvm.ClassFile.FieldType.int)).before args0 about1 = true := code_word (m := ⟨2, 3⟩) (meth := k2m3) (c := k2c3) (by decide +kernel) rfl rfl rfl (by decide +kernel)
set_option maxRecDepth 65536 in
theorem w_c12 : (Jvm.Cond.code ({ cls := "com/example/einzug/einzug/core/TextCharactersClosePinLaw", name := "ref3", desc := "(III)I" } : Jvm.MethodName) method_3_code (5 : Nat) (Option.some Jvm.ClassFile.FieldType.int)).before args0 about1 = true := code_word (m := ⟨1, 2⟩) (meth := k1m2) (c := k1c2) (by decide +kernel) rfl rfl rfl (by decide +kernel)
set_option maxRecDepth 65536 in
theorem w_c13 : (Jvm.Cond.code ({ cls := "com/example/einzug/einzug/core/TextCharactersClosePinLaw", name := "sp", desc := "(I)Z" } : Jvm.MethodName) method_2_code (1 : Nat) (Option.some Jvm.ClassFile.FieldType.boolean)).before args0 about1 = true := code_word (m := ⟨1, 1⟩) (meth := k1m1) (c := k1c1) (by decide +kernel) rfl rfl rfl (by decide +kernel)
def codes1 : List Jvm.Cond := [Jvm.Cond.code x code maxLocals ret, Jvm.Cond.code ({ cls := "com/example/einzug/einzug/core/TextCharacters", name := "<init>", desc := "()V" } : Jvm.MethodName) prog_145_method_1_code (1 : Nat) (Option.none : Option Jvm.ClassFile.FieldType), Jvm.Cond.code ({ cls := "java/lang/Object", name := "<init>", desc := "()V" } : Jvm.MethodName) object_method_1_code (1 : Nat) (Option.none : Option Jvm.ClassFile.FieldType), Jvm.Cond.code ({ cls := "com/example/einzug/einzug/core/TextCharacters", name := "open", desc := "()V" } : Jvm.MethodName) prog_145_method_2_code (1 : Nat) (Option.none : Option Jvm.ClassFile.FieldType), Jvm.Cond.code ({ cls := "com/example/einzug/einzug/core/TextCharacters", name := "characters", desc := "([CII)V" } : Jvm.MethodName) prog_145_method_3_code (12 : Nat) (Option.none : Option Jvm.ClassFile.FieldType), Jvm.Cond.code ({ cls := "com/example/einzug/einzug/rules/XmlCharacters", name := "isSpace", desc := "(I)Z" } : Jvm.MethodName) prog_200_method_2_code (1 : Nat) (Option.some Jvm.ClassFile.FieldType.boolean), Jvm.Cond.code ({ cls := "java/lang/Character", name := "codePointAt", desc := "([CII)I" } : Jvm.MethodName) jdk_89_method_22_code (3 : Nat) (Option.some Jvm.ClassFile.FieldType.int), Jvm.Cond.code ({ cls := "java/lang/Character", name := "codePointAtImpl", desc := "([CII)I" } : Jvm.MethodName) jdk_89_method_23_code (5 : Nat) (Option.some Jvm.ClassFile.FieldType.int), Jvm.Cond.code ({ cls := "java/lang/Character", name := "isHighSurrogate", desc := "(C)Z" } : Jvm.MethodName) jdk_89_method_14_code (1 : Nat) (Option.some Jvm.ClassFile.FieldType.boolean), Jvm.Cond.code ({ cls := "java/lang/Character", name := "charCount", desc := "(I)I" } : Jvm.MethodName) jdk_89_method_18_code (1 : Nat) (Option.some Jvm.ClassFile.FieldType.int), Jvm.Cond.code ({ cls := "com/example/einzug/einzug/rules/PermittedCharacters", name := "isPermitted", desc := "(I)Z" } : Jvm.MethodName) prog_185_method_2_code (1 : Nat) (Option.some Jvm.ClassFile.FieldType.boolean), Jvm.Cond.code ({ cls := "com/example/einzug/einzug/core/TextCharacters", name := "close", desc := "()I" } : Jvm.MethodName) prog_145_method_4_code (1 : Nat) (Option.some Jvm.ClassFile.FieldType.int), Jvm.Cond.code ({ cls := "com/example/einzug/einzug/core/TextCharactersClosePinLaw", name := "ref3", desc := "(III)I" } : Jvm.MethodName) method_3_code (5 : Nat) (Option.some Jvm.ClassFile.FieldType.int), Jvm.Cond.code ({ cls := "com/example/einzug/einzug/core/TextCharactersClosePinLaw", name := "sp", desc := "(I)Z" } : Jvm.MethodName) method_2_code (1 : Nat) (Option.some Jvm.ClassFile.FieldType.boolean)]
set_option maxRecDepth 65536 in
theorem codes_eq : words1.filter isCode = codes1 := rfl
theorem w_codes : ∀ c ∈ words1.filter isCode, c.before args0 about1 = true := by
  rw [codes_eq]
  intro c hc
  simp only [codes1, List.mem_cons, List.not_mem_nil, or_false] at hc
  rcases hc with rfl | rfl | rfl | rfl | rfl | rfl | rfl | rfl | rfl | rfl | rfl | rfl | rfl | rfl
  · exact w_c0
  · exact w_c1
  · exact w_c2
  · exact w_c3
  · exact w_c4
  · exact w_c5
  · exact w_c6
  · exact w_c7
  · exact w_c8
  · exact w_c9
  · exact w_c10
  · exact w_c11
  · exact w_c12
  · exact w_c13
set_option maxRecDepth 65536 in
theorem w_t1 : (words1.take 24).all (fun c => isCode c || c.before args0 about1) = true := by decide +kernel
set_option maxRecDepth 65536 in
theorem w_t2 : ((words1.drop 24).take 24).all (fun c => isCode c || c.before args0 about1) = true := by decide +kernel
set_option maxRecDepth 65536 in
theorem w_t3 : ((words1.drop 24).drop 24).all (fun c => isCode c || c.before args0 about1) = true := by decide +kernel
theorem w_tables : (allAtoms (Jvm.Cond.code x code maxLocals ret :: tables_1)).before args0 about1 = true := by
  rw [allAtoms_all]
  show words1.all (fun c => c.before args0 about1) = true
  refine all_split ?_ w_codes
  rw [← List.take_append_drop 24 words1, List.all_append, w_t1, ← List.take_append_drop 24 (words1.drop 24), List.all_append, w_t2, w_t3]
  rfl
set_option maxRecDepth 65536 in
theorem w_case : (Jvm.Cond.and given_1 narrow_1).before args0 about1 = true := by decide +kernel
theorem w_applies : (headSpec (Jvm.Cond.code x code maxLocals ret :: tables_1) room_1).applies x e0.platform about1 = true :=
  (Spec.applies_iff w_frames).mpr ⟨w_running, w_runnable, w_alone, w_named, w_hears, w_ripe, w_room, w_tables⟩
theorem atStart : AtStart classFile x code maxLocals ret World_1 tables_1 room_1 Calls_1 rest_1 Pre_1 launch0 p0 e0 about1 theMethod args0 below0 :=
  ⟨lists_1, trivial, launch0.admits_env _ _ _, launch0.least_env, fairChoices_fair.cas, fairChoices_fair.clock, w_frames, w_args, w_heap, w_applies, trivial, trivial, w_case⟩
end start1
theorem witness_1 : WitnessClaimed_1 := ⟨start1.p0, start1.e0, start1.about1, start1.theMethod, start1.args0, start1.below0, start1.atStart⟩
end Jvm.Pilot.@@N@@
