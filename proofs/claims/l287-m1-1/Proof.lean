import JvmDerived
import JvmDerived.Pilot.@@N@@Statement
import JvmDerived.Pilot.@@N@@Code
set_option linter.unusedVariables false
set_option linter.unusedSimpArgs false
namespace Jvm.Pilot.@@N@@
open Jvm Jvm.ClassFile Sem Op Lib Jvm.Free Jvm.Stand Jvm.LawKit Jvm.RoadKit Bundle Jvm.Pilot.@@N@@.Jvm.D
section Own
variable {p : Program} {l : Launch} {e : Env} {R : Room} {s : State} {m : MethodId} {args : Array Value} {below : List Frame} {meth : Method} {c : Code} {T T0 T1 : State} {g0 g1 : JFrame} {locs : List Loc} {cells slots : Nat} {Z : State} {h h' h0 : Heap} {a b : Addr}
/-- the run goes from T0 with the frame g0 to a state of which P holds -/
def Goes (p : Program) (l : Launch) (e : Env) (R : Room) (s : State) (m : MethodId) (args : Array Value) (below : List Frame) (meth : Method) (c : Code) (T0 : State) (g0 : JFrame) (P : State → List Loc → Nat → Nat → JFrame → Prop) : Prop :=
  ∃ T' L' k' n' g', Stand p l e R s m args below meth c T' L' k' n' ∧ P T' L' k' n' g' ∧ ∀ t, Steps p.tables e below (T'.setTop g') t → Steps p.tables e below (T0.setTop g0) t
variable {P Q : State → List Loc → Nat → Nat → JFrame → Prop}
theorem own_st (st : ∀ t, Steps p.tables e below (T1.setTop g1) t → Steps p.tables e below (T0.setTop g0) t) (k : Goes p l e R s m args below meth c T1 g1 P) : Goes p l e R s m args below meth c T0 g0 P := by
  obtain ⟨T', L', k', n', g', X, hP, q⟩ := k
  exact ⟨T', L', k', n', g', X, hP, fun t r => st t (q t r)⟩
theorem own_here (X : Stand p l e R s m args below meth c T0 locs cells slots) (hP : P T0 locs cells slots g0) : Goes p l e R s m args below meth c T0 g0 P :=
  ⟨T0, locs, cells, slots, g0, X, hP, fun _ r => r⟩
theorem own_bind (k : Goes p l e R s m args below meth c T0 g0 P) (q : ∀ T' L' k' n' g', Stand p l e R s m args below meth c T' L' k' n' → P T' L' k' n' g' → Goes p l e R s m args below meth c T' g' Q) : Goes p l e R s m args below meth c T0 g0 Q := by
  obtain ⟨T', L', k', n', g', X, hP, st⟩ := k
  exact own_st st (q T' L' k' n' g' X hP)
theorem own_cast (q : g0 = g1) (k : Goes p l e R s m args below meth c T0 g1 P) : Goes p l e R s m args below meth c T0 g0 P := by subst q; exact k
/-- the frame stands before a return of nothing -/
def EndV (m : MethodId) (c : Code) (K N : Nat) (Q : Option Value → Heap → List Loc → Prop) (T : State) (L : List Loc) (k n : Nat) (g : JFrame) : Prop := ∃ pc Ls, g = mkF m pc Ls [] ∧ decode c.code pc = .ok (.return_, 1) ∧ k ≤ K ∧ n ≤ N ∧ Q none T.heap L
/-- the frame stands before the return of an int of the kind t -/
def EndN (m : MethodId) (c : Code) (t : FieldType) (K N : Nat) (Q : Option Value → Heap → List Loc → Prop) (T : State) (L : List Loc) (k n : Nat) (g : JFrame) : Prop := ∃ pc Ls z, g = mkF m pc Ls [.int z] ∧ decode c.code pc = .ok (.ireturn, 1) ∧ narrow t (.int z) = .int z ∧ k ≤ K ∧ n ≤ N ∧ Q (some (.int z)) T.heap L
def EndJ (m : MethodId) (c : Code) (K N : Nat) (Q : Option Value → Heap → List Loc → Prop) (T : State) (L : List Loc) (k n : Nat) (g : JFrame) : Prop := ∃ pc Ls z, g = mkF m pc Ls [.long z] ∧ decode c.code pc = .ok (.lreturn, 1) ∧ k ≤ K ∧ n ≤ N ∧ Q (some (.long z)) T.heap L
def EndA (m : MethodId) (c : Code) (K N : Nat) (Q : Option Value → Heap → List Loc → Prop) (T : State) (L : List Loc) (k n : Nat) (g : JFrame) : Prop := ∃ pc Ls z, g = mkF m pc Ls [.ref z] ∧ decode c.code pc = .ok (.areturn, 1) ∧ k ≤ K ∧ n ≤ N ∧ Q (some (.ref z)) T.heap L
theorem own_finV {K N : Nat} {Q : Option Value → Heap → List Loc → Prop} (hx : p.tables.exec = Jvm.exec) (hret : meth.sig.returnType = none) (hlk : meth.locks = false) (G : Goes p l e R s m args below meth c T0 g0 (EndV m c K N Q)) :
    ∃ s₂ o, Steps p.tables e below (T0.setTop g0) s₂ ∧ s₂.status = .running ∧ Ended s₂ below o ∧ ∃ v L, o = .returned v ∧ Q v s₂.heap L ∧ FrameEnd s o s₂ L K N := by
  obtain ⟨T', L', k', n', g', X, ⟨pc, Ls, rfl, hd, hk, hn, hQ⟩, st⟩ := G
  obtain ⟨fs, hr, hrun, hended, hW, hsame⟩ := X.leave (v := none) (fun _ => rfl) hlk
  exact ⟨_, _, st _ (X.returnOut hx hret hd hr), hrun, hended, _, _, rfl, hQ, ⟨_, rfl⟩, hW, hsame.mono hk hn⟩
theorem own_finN {t : FieldType} {K N : Nat} {Q : Option Value → Heap → List Loc → Prop} (hti : t = .int ∨ t = .boolean ∨ t = .byte ∨ t = .char ∨ t = .short) (hx : p.tables.exec = Jvm.exec) (hret : meth.sig.returnType = some t) (hlk : meth.locks = false) (G : Goes p l e R s m args below meth c T0 g0 (EndN m c t K N Q)) :
    ∃ s₂ o, Steps p.tables e below (T0.setTop g0) s₂ ∧ s₂.status = .running ∧ Ended s₂ below o ∧ ∃ v L, o = .returned v ∧ Q v s₂.heap L ∧ FrameEnd s o s₂ L K N := by
  obtain ⟨T', L', k', n', g', X, ⟨pc, Ls, z, rfl, hd, hz, hk, hn, hQ⟩, st⟩ := G
  obtain ⟨fs, hr, hrun, hended, hW, hsame⟩ := X.leave (v := some (.int z)) (fun h => by rw [hret] at h; cases h) hlk
  exact ⟨_, _, st _ (X.ireturnOut hx hret hz hti hd hr), hrun, hended, _, _, rfl, hQ, ⟨_, rfl⟩, hW, hsame.mono hk hn⟩
theorem own_finJ {K N : Nat} {Q : Option Value → Heap → List Loc → Prop} (hx : p.tables.exec = Jvm.exec) (hret : meth.sig.returnType = some .long) (hlk : meth.locks = false) (G : Goes p l e R s m args below meth c T0 g0 (EndJ m c K N Q)) :
    ∃ s₂ o, Steps p.tables e below (T0.setTop g0) s₂ ∧ s₂.status = .running ∧ Ended s₂ below o ∧ ∃ v L, o = .returned v ∧ Q v s₂.heap L ∧ FrameEnd s o s₂ L K N := by
  obtain ⟨T', L', k', n', g', X, ⟨pc, Ls, z, rfl, hd, hk, hn, hQ⟩, st⟩ := G
  obtain ⟨fs, hr, hrun, hended, hW, hsame⟩ := X.leave (v := some (.long z)) (fun h => by rw [hret] at h; cases h) hlk
  exact ⟨_, _, st _ (X.lreturnOut hx hret hd hr), hrun, hended, _, _, rfl, hQ, ⟨_, rfl⟩, hW, hsame.mono hk hn⟩
theorem own_finA {t : FieldType} {K N : Nat} {Q : Option Value → Heap → List Loc → Prop} (ht : t.isReference = true) (hx : p.tables.exec = Jvm.exec) (hret : meth.sig.returnType = some t) (hlk : meth.locks = false) (G : Goes p l e R s m args below meth c T0 g0 (EndA m c K N Q)) :
    ∃ s₂ o, Steps p.tables e below (T0.setTop g0) s₂ ∧ s₂.status = .running ∧ Ended s₂ below o ∧ ∃ v L, o = .returned v ∧ Q v s₂.heap L ∧ FrameEnd s o s₂ L K N := by
  obtain ⟨T', L', k', n', g', X, ⟨pc, Ls, z, rfl, hd, hk, hn, hQ⟩, st⟩ := G
  obtain ⟨fs, hr, hrun, hended, hW, hsame⟩ := X.leave (v := some (.ref z)) (fun h => by rw [hret] at h; cases h) hlk
  exact ⟨_, _, st _ (X.areturnOut hx rfl hret ht hd hr), hrun, hended, _, _, rfl, hQ, ⟨_, rfl⟩, hW, hsame.mono hk hn⟩
/-- a method's contract -/
abbrev Meets (l : Launch) (Z : State) (y : MethodName) (bytes : ByteArray) (maxL : Nat) (ret : Option FieldType) (ws : List Jvm.Cond) (rm : Room) (A : Array Value) (h0 : Heap) (K N : Nat) (Q : Option Value → Heap → List Loc → Prop) : Prop :=
  MetFree l y (head1 (Jvm.Cond.code y bytes maxL ret :: ws) rm) (fun a U => a = A ∧ Z.Warmed39 U.vm ∧ U.heap = h0) (fun _ _ _ _ _ => True) (fun _ U o U' => ∃ v L, o = .returned v ∧ Q v U'.heap L ∧ FrameEnd U o U' L K N)
theorem own_meets {y : MethodName} {bytes : ByteArray} {maxL K N : Nat} {ret : Option FieldType} {ws : List Jvm.Cond} {rm : Room} {A : Array Value} {Q : Option Value → Heap → List Loc → Prop} (hp : plainFor y = true)
    (body : ∀ p e s m below meth c s₁, p.tables.exec = Jvm.exec → Z.Warmed39 s.vm → c.code = bytes → c.maxLocals = maxL → s.vm.findClass y.cls = some m.cls → meth.name = y.name → meth.sig.returnType = ret → meth.locks = false → Stand p l e rm s m A below meth c s₁ [] 0 0 → s₁.heap = h0 →
      ∃ s₂ o, Steps p.tables e below (s₁.setTop (entryFrame m A maxL)) s₂ ∧ s₂.status = .running ∧ Ended s₂ below o ∧ ∃ v L, o = .returned v ∧ Q v s₂.heap L ∧ FrameEnd s o s₂ L K N) : Meets l Z y bytes maxL ret ws rm A h0 K N Q := by
  refine MetFree.of_bodySF hp hisR ?_
  intro p e s m args below meth c s₁ Bd hml0 hP hK
  obtain ⟨rfl, hZ, hh⟩ := hP
  exact body p e s m below meth c s₁ Bd.exec hZ Bd.bytes hml0 (findClass_of_methodNamed Bd.named) (name_of_methodNamed Bd.named Bd.method).1 Bd.returns Bd.notSynchronized (Stand.of_body Bd) (by rw [← hh, Bd.state]; rfl)
/-- the array at a holds the n values f 0, f 1 .. -/
def VA (Z : State) (h : Heap) (a : Addr) (ty : FieldType) (n : Nat) (f : Nat → Value) : Prop := ∃ cl : Cell, Arr Z h a cl ty ∧ cl.slots.size = n ∧ ∀ j, j < n → cl.slots[j]? = some (f j)
variable {ty : FieldType} {n : Nat} {f : Nat → Value}
theorem VA.lt (A : VA Z h a ty n f) : a < h.size := by obtain ⟨cl, A, -⟩ := A; exact A.lt
theorem VA.ext (A : VA Z h a ty n f) (E : Ext h h') : VA Z h' a ty n f := by obtain ⟨cl, A, r⟩ := A; exact ⟨cl, A.ext E, r⟩
theorem VA.other {sl : Nat} {v : Value} (A : VA Z h b ty n f) (W : Wr h h' a sl v) (q : b ≠ a) : VA Z h' b ty n f := by obtain ⟨cl, A, r⟩ := A; exact ⟨cl, A.other W q, r⟩
theorem VA.keep {ws : List Addr} (A : VA Z h a ty n f) (K : Keep h h' ws) (q : a ∉ ws) : VA Z h' a ty n f := by obtain ⟨cl, A, r⟩ := A; exact ⟨cl, ⟨K.2.1 a cl A.1 q, A.2⟩, r⟩
theorem VA.congr {f' : Nat → Value} (A : VA Z h a ty n f) (q : ∀ j, j < n → f j = f' j) : VA Z h a ty n f' := by obtain ⟨cl, A, S, H⟩ := A; exact ⟨cl, A, S, fun j hj => by rw [← q j hj]; exact H j hj⟩
theorem own_slots (cl : Cell) (i : Nat) (v : Value) : (cl.setSlot i v).slots = cl.slots.setIfInBounds i v := rfl
theorem VA.set {i : Nat} {v : Value} (A : VA Z h a ty n f) (W : Wr h h' a i v) : VA Z h' a ty n (fun j => if j = i then v else f j) := by
  obtain ⟨cl, A, S, H⟩ := A
  refine ⟨_, A.same W, by rw [sz_set]; exact S, fun j hj => ?_⟩
  rw [own_slots]
  show _ = some (if j = i then v else f j)
  by_cases u : i = j
  · subst u; rw [if_pos rfl, Array.getElem?_setIfInBounds_self_of_lt (by rw [S]; exact hj)]
  · rw [if_neg (fun q => u q.symm), Array.getElem?_setIfInBounds_ne u]; exact H j hj
theorem own_newslots (k : ClassId) (ty : FieldType) (z : Int32) : (newA k ty z).slots = Array.replicate z.toNatClampNeg (defaultValue ty) := rfl
theorem VA.new {k : ClassId} {z : Int32} (A : Arr Z h a (newA k ty z) ty) (hn : z.toNatClampNeg = n) : VA Z h a ty n (fun _ => defaultValue ty) := by
  refine ⟨_, A, by rw [sz_new, hn], fun j hj => ?_⟩
  rw [own_newslots, hn, Array.getElem?_replicate, if_pos hj]
/-- place i of f turned to x -/
def upd {α : Type} (f : Nat → α) (i : Nat) (x : α) (j : Nat) : α := if j = i then x else f j
theorem VA.setI {i : Nat} {x : Int32} {f : Nat → Int32} (A : VA Z h a ty n (fun j => .int (f j))) (W : Wr h h' a i (.int x)) : VA Z h' a ty n (fun j => .int (upd f i x j)) :=
  (A.set W).congr fun j _ => by simp only [upd]; split <;> rfl
theorem VA.setJ {i : Nat} {x : Int64} {f : Nat → Int64} (A : VA Z h a ty n (fun j => .long (f j))) (W : Wr h h' a i (.long x)) : VA Z h' a ty n (fun j => .long (upd f i x j)) :=
  (A.set W).congr fun j _ => by simp only [upd]; split <;> rfl
theorem own_nn {j : Nat} (hj : j < 2147483648) : ¬ Int32.ofNat j < 0 := by
  rw [Int32.lt_iff_toInt_lt, Int32.toInt_ofNat_of_lt hj, show (0 : Int32).toInt = 0 from rfl]; omega
theorem own_n32 {j : Nat} (hj : j < 2147483648) : (Int32.ofNat j).toNatClampNeg = j := by
  rw [Int32.toNatClampNeg, Int32.toInt_ofNat_of_lt hj]; rfl
theorem own_lt {i j : Nat} (hi : i < 2147483648) (hj : j < 2147483648) : Int32.ofNat i < Int32.ofNat j ↔ i < j := by
  rw [Int32.lt_iff_toInt_lt, Int32.toInt_ofNat_of_lt hi, Int32.toInt_ofNat_of_lt hj]; omega
theorem own_eq {i j : Nat} (hi : i < 2147483648) (hj : j < 2147483648) : Int32.ofNat i = Int32.ofNat j ↔ i = j := by
  rw [← Int32.toInt_inj, Int32.toInt_ofNat_of_lt hi, Int32.toInt_ofNat_of_lt hj]; omega
theorem own_in {i : Int32} {j k : Nat} (hi : i = Int32.ofNat j) (hj : j < k) (hb : k ≤ 2147483648) : ¬ (i < 0 ∨ k ≤ i.toNatClampNeg) := by
  subst hi; rw [own_n32 (by omega)]; exact fun q => q.elim (own_nn (by omega)) (fun q => by omega)
theorem own_len (X : Stand p l e R s m args below meth c T locs cells slots) (hx : p.tables.exec = Jvm.exec) (hZ : Z.Warmed39 s.vm) (eT : T.heap = h) (A : VA Z h a ty n f) {N : Int32} (hN : N = Int32.ofNat n) {g : JFrame} (hg : g.method = m) {rest : List Value} (hs : g.stack = .ref a :: rest) (hd : decode c.code g.pc = .ok (.arraylength, 1)) :
    ∀ t, Steps p.tables e below (T.setTop { g with pc := g.pc + 1, stack := .int N :: rest }) t → Steps p.tables e below (T.setTop g) t := by
  obtain ⟨cl, A, S, H⟩ := A
  intro t k
  refine X.arraylength hx (by rw [eT]; exact A.1) (State.isArrayOf_alike hZ.alike A.2.1) hg hs hd _ ?_
  rw [S, show n.toInt32 = N from hN.symm]
  exact k
theorem own_ild (X : Stand p l e R s m args below meth c T locs cells slots) (hx : p.tables.exec = Jvm.exec) (hZ : Z.Warmed39 s.vm) (eT : T.heap = h) (A : VA Z h a .int n f) {i : Int32} {j : Nat} {v : Value} (hi : i = Int32.ofNat j) (hj : j < n) (hb : n ≤ 2147483648) (hv : f j = v) {g : JFrame} (hg : g.method = m) {rest : List Value} (hs : g.stack = .int i :: .ref a :: rest) (hd : decode c.code g.pc = .ok (.iaload, 1)) :
    ∀ t, Steps p.tables e below (T.setTop { g with pc := g.pc + 1, stack := v :: rest }) t → Steps p.tables e below (T.setTop g) t := by
  obtain ⟨cl, A, S, H⟩ := A
  exact X.iaload hx (by rw [eT]; exact A.1) (State.isArrayOf_alike hZ.alike A.2.1) A.2.2 (by rw [S]; exact own_in hi hj hb) (by rw [hi, own_n32 (by omega), H j hj, hv]) hg hs hd
theorem own_jld (X : Stand p l e R s m args below meth c T locs cells slots) (hx : p.tables.exec = Jvm.exec) (hZ : Z.Warmed39 s.vm) (eT : T.heap = h) (A : VA Z h a .long n f) {i : Int32} {j : Nat} {v : Value} (hi : i = Int32.ofNat j) (hj : j < n) (hb : n ≤ 2147483648) (hv : f j = v) {g : JFrame} (hg : g.method = m) {rest : List Value} (hs : g.stack = .int i :: .ref a :: rest) (hd : decode c.code g.pc = .ok (.laload, 1)) :
    ∀ t, Steps p.tables e below (T.setTop { g with pc := g.pc + 1, stack := v :: rest }) t → Steps p.tables e below (T.setTop g) t := by
  obtain ⟨cl, A, S, H⟩ := A
  exact X.laload hx (by rw [eT]; exact A.1) (State.isArrayOf_alike hZ.alike A.2.1) A.2.2 (by rw [S]; exact own_in hi hj hb) (by rw [hi, own_n32 (by omega), H j hj, hv]) hg hs hd
theorem own_cld (X : Stand p l e R s m args below meth c T locs cells slots) (hx : p.tables.exec = Jvm.exec) (hZ : Z.Warmed39 s.vm) (eT : T.heap = h) (A : VA Z h a .char n f) {i : Int32} {j : Nat} {v : Value} (hi : i = Int32.ofNat j) (hj : j < n) (hb : n ≤ 2147483648) (hv : f j = v) {g : JFrame} (hg : g.method = m) {rest : List Value} (hs : g.stack = .int i :: .ref a :: rest) (hd : decode c.code g.pc = .ok (.caload, 1)) :
    ∀ t, Steps p.tables e below (T.setTop { g with pc := g.pc + 1, stack := v :: rest }) t → Steps p.tables e below (T.setTop g) t := by
  obtain ⟨cl, A, S, H⟩ := A
  exact X.caload hx (by rw [eT]; exact A.1) (State.isArrayOf_alike hZ.alike A.2.1) A.2.2 (by rw [S]; exact own_in hi hj hb) (by rw [hi, own_n32 (by omega), H j hj, hv]) hg hs hd
theorem own_bld (X : Stand p l e R s m args below meth c T locs cells slots) (hx : p.tables.exec = Jvm.exec) (hZ : Z.Warmed39 s.vm) (eT : T.heap = h) (A : VA Z h a .byte n f) {i : Int32} {j : Nat} {v : Value} (hi : i = Int32.ofNat j) (hj : j < n) (hb : n ≤ 2147483648) (hv : f j = v) {g : JFrame} (hg : g.method = m) {rest : List Value} (hs : g.stack = .int i :: .ref a :: rest) (hd : decode c.code g.pc = .ok (.baload, 1)) :
    ∀ t, Steps p.tables e below (T.setTop { g with pc := g.pc + 1, stack := v :: rest }) t → Steps p.tables e below (T.setTop g) t := by
  obtain ⟨cl, A, S, H⟩ := A
  exact X.baloadBytes hx (by rw [eT]; exact A.1) (State.isArrayOf_alike hZ.alike A.2.1) A.2.2 (by rw [S]; exact own_in hi hj hb) (by rw [hi, own_n32 (by omega), H j hj, hv]) hg hs hd
theorem own_ist (X : Stand p l e R s m args below meth c T locs cells slots) (hx : p.tables.exec = Jvm.exec) (hZ : Z.Warmed39 s.vm) (eT : T.heap = h) (A : VA Z h a .int n f) {i x : Int32} {j : Nat} (hi : i = Int32.ofNat j) (hj : j < n) (hb : n ≤ 2147483648) {g : JFrame} (hg : g.method = m) {rest : List Value} (hs : g.stack = .int x :: .int i :: .ref a :: rest) (hd : decode c.code g.pc = .ok (.iastore, 1)) :
    ∃ T' h', Stand p l e R s m args below meth c T' (locs ++ [⟨a, j⟩]) cells slots ∧ T'.heap = h' ∧ Wr h h' a j (.int x) ∧ ∀ t, Steps p.tables e below (T'.setTop { g with pc := g.pc + 1, stack := rest }) t → Steps p.tables e below (T.setTop g) t := by
  obtain ⟨cl, A, S, H⟩ := A
  have q := stI X hx hZ eT A (by rw [S]; exact own_in hi hj hb) hg hs hd
  rw [hi, own_n32 (by omega)] at q
  exact q
theorem own_jst (X : Stand p l e R s m args below meth c T locs cells slots) (hx : p.tables.exec = Jvm.exec) (hZ : Z.Warmed39 s.vm) (eT : T.heap = h) (A : VA Z h a .long n f) {i : Int32} {x : Int64} {j : Nat} (hi : i = Int32.ofNat j) (hj : j < n) (hb : n ≤ 2147483648) {g : JFrame} (hg : g.method = m) {rest : List Value} (hs : g.stack = .long x :: .int i :: .ref a :: rest) (hd : decode c.code g.pc = .ok (.lastore, 1)) :
    ∃ T' h', Stand p l e R s m args below meth c T' (locs ++ [⟨a, j⟩]) cells slots ∧ T'.heap = h' ∧ Wr h h' a j (.long x) ∧ ∀ t, Steps p.tables e below (T'.setTop { g with pc := g.pc + 1, stack := rest }) t → Steps p.tables e below (T.setTop g) t := by
  obtain ⟨cl, A, S, H⟩ := A
  have q := stJ X hx hZ eT A (by rw [S]; exact own_in hi hj hb) hg hs hd
  rw [hi, own_n32 (by omega)] at q
  exact q
theorem own_cst (X : Stand p l e R s m args below meth c T locs cells slots) (hx : p.tables.exec = Jvm.exec) (hZ : Z.Warmed39 s.vm) (eT : T.heap = h) (A : VA Z h a .char n f) {i x : Int32} {j : Nat} (hi : i = Int32.ofNat j) (hj : j < n) (hb : n ≤ 2147483648) {g : JFrame} (hg : g.method = m) {rest : List Value} (hs : g.stack = .int x :: .int i :: .ref a :: rest) (hd : decode c.code g.pc = .ok (.castore, 1)) :
    ∃ T' h', Stand p l e R s m args below meth c T' (locs ++ [⟨a, j⟩]) cells slots ∧ T'.heap = h' ∧ Wr h h' a j (.int (nar .char x)) ∧ ∀ t, Steps p.tables e below (T'.setTop { g with pc := g.pc + 1, stack := rest }) t → Steps p.tables e below (T.setTop g) t := by
  obtain ⟨cl, A, S, H⟩ := A
  have q := stC X hx hZ eT A (by rw [S]; exact own_in hi hj hb) hg hs hd
  rw [hi, own_n32 (by omega)] at q
  exact q
theorem own_bst (X : Stand p l e R s m args below meth c T locs cells slots) (hx : p.tables.exec = Jvm.exec) (hZ : Z.Warmed39 s.vm) (eT : T.heap = h) (A : VA Z h a .byte n f) {i x : Int32} {j : Nat} (hi : i = Int32.ofNat j) (hj : j < n) (hb : n ≤ 2147483648) {g : JFrame} (hg : g.method = m) {rest : List Value} (hs : g.stack = .int x :: .int i :: .ref a :: rest) (hd : decode c.code g.pc = .ok (.bastore, 1)) :
    ∃ T' h', Stand p l e R s m args below meth c T' (locs ++ [⟨a, j⟩]) cells slots ∧ T'.heap = h' ∧ Wr h h' a j (.int (nar .byte x)) ∧ ∀ t, Steps p.tables e below (T'.setTop { g with pc := g.pc + 1, stack := rest }) t → Steps p.tables e below (T.setTop g) t := by
  obtain ⟨cl, A, S, H⟩ := A
  have q := stB X hx hZ eT A (by rw [S]; exact own_in hi hj hb) hg hs hd
  rw [hi, own_n32 (by omega)] at q
  exact q
end Own
def own_v (q : Int64) : Int64 := (1 : Int64) + ((q &&& (2147483647 : Int64)) - ((q &&& (2147483647 : Int64)) / (2147483647 : Int64)) * (2147483647 : Int64))
theorem own_vb (q : Int64) : 1 ≤ (own_v q).toInt ∧ (own_v q).toInt ≤ 2147483647 := by
  have h1 := c_maskL q 2147483647 31 (by decide) (by decide)
  have h2 := (c_lrem (q &&& (2147483647 : Int64)) 2147483647 2147483647 (by decide)).1 (by rw [h1]; omega)
  have h3 := c_ladd 1 ((q &&& (2147483647 : Int64)) - ((q &&& (2147483647 : Int64)) / (2147483647 : Int64)) * (2147483647 : Int64))
  have h4 := rng64 (own_v q)
  have h5 : (1 : Int64).toInt = 1 := by decide
  unfold own_v at h4 ⊢
  rw [h2] at h3
  omega
theorem own_lo (q : Int64) : ¬ own_v q < 1 := by
  have h := own_vb q
  have h5 : (1 : Int64).toInt = 1 := by decide
  rw [Int64.lt_iff_toInt_lt]; omega
theorem own_pos (q : Int64) : 0 < own_v q := by
  have h := own_vb q
  have h5 : (0 : Int64).toInt = 0 := by decide
  rw [Int64.lt_iff_toInt_lt]; omega
theorem own_hi (q : Int64) : ¬ (2147483647 : Int64) < own_v q := by
  have h := own_vb q
  have h5 : (2147483647 : Int64).toInt = 2147483647 := by decide
  rw [Int64.lt_iff_toInt_lt]; omega
theorem d1_0 : decode prog_2_method_2_code 0 = .ok (.lload_n 0, 1) := by decide +kernel
theorem d1_1 : decode prog_2_method_2_code 1 = .ok (.lconst 0, 1) := by decide +kernel
theorem d1_2 : decode prog_2_method_2_code 2 = .ok (.lcmp, 1) := by decide +kernel
theorem d1_3 : decode prog_2_method_2_code 3 = .ok (.ifCond .gt 13, 3) := by decide +kernel
theorem d1_6 : decode prog_2_method_2_code 6 = .ok (.new 9, 3) := by decide +kernel
theorem d1_9 : decode prog_2_method_2_code 9 = .ok (.dup, 1) := by decide +kernel
theorem d1_10 : decode prog_2_method_2_code 10 = .ok (.ldc 11, 2) := by decide +kernel
theorem d1_12 : decode prog_2_method_2_code 12 = .ok (.invokespecial 13, 3) := by decide +kernel
theorem d1_15 : decode prog_2_method_2_code 15 = .ok (.athrow, 1) := by decide +kernel
theorem d1_16 : decode prog_2_method_2_code 16 = .ok (.lload_n 0, 1) := by decide +kernel
theorem d1_17 : decode prog_2_method_2_code 17 = .ok (.ldc2_w 18, 3) := by decide +kernel
theorem d1_20 : decode prog_2_method_2_code 20 = .ok (.lcmp, 1) := by decide +kernel
theorem d1_21 : decode prog_2_method_2_code 21 = .ok (.ifCond .le 13, 3) := by decide +kernel
theorem d1_24 : decode prog_2_method_2_code 24 = .ok (.new 9, 3) := by decide +kernel
theorem d1_27 : decode prog_2_method_2_code 27 = .ok (.dup, 1) := by decide +kernel
theorem d1_28 : decode prog_2_method_2_code 28 = .ok (.ldc 20, 2) := by decide +kernel
theorem d1_30 : decode prog_2_method_2_code 30 = .ok (.invokespecial 13, 3) := by decide +kernel
theorem d1_33 : decode prog_2_method_2_code 33 = .ok (.athrow, 1) := by decide +kernel
theorem d1_34 : decode prog_2_method_2_code 34 = .ok (.return_, 1) := by decide +kernel
theorem pn_1 : plainName "com/example/beckon/beckon/rest/Expiration" = true := by first | (simp [plainName, overriddenIn]; done) | decide +kernel
theorem ef_1 (m : MethodId) (x0 : Int64) : entryFrame m #[(.long x0)] 2 = mkF m 0 #[.val (.long x0), .second] [] := by first | (simp [entryFrame, mkF, argsToLocals, Value.category]; done) | rfl
def Q1 (h0 : Heap) (n0 : Nat) (v : Option Value) (h : Heap) (L : List Loc) : Prop := v = none ∧ Fr n0 L ∧ h = h0
set_option maxRecDepth 65536 in
set_option maxHeartbeats 40000000 in
theorem rm1 (l : Launch) (Z : State) (a0 : Array Value) (hw : ∀ d ∈ tables_1, d.before a0 Z = true) (ws : List Jvm.Cond) (q1 : Int64) (h0 : Heap) (n0 : Nat) (hp : 0 < q1) (hh : ¬ (2147483647 : Int64) < q1) :
    Meets l Z (⟨"com/example/beckon/beckon/rest/Expiration", "check", "(J)V"⟩ : MethodName) prog_2_method_2_code 2 none ws ({ frames := 0, cells := 0, slots := 0, locals := 0 } : Room) #[(.long q1)] h0 0 0 (Q1 h0 n0) := by
  refine own_meets (plainFor_of_name pn_1) ?_
  intro p e s m below meth c s₁ hx hZ hby hml hown hnm hret hlk X0 e0
  have hown : s.vm.findClass "com/example/beckon/beckon/rest/Expiration" = some m.cls := hown
  have hnm : meth.name = "check" := hnm
  refine own_finV (l := l) (R := ({ frames := 0, cells := 0, slots := 0, locals := 0 } : Room)) (m := m) (args := #[(.long q1)]) (c := c) hx hret hlk ?_
  refine own_cast (ef_1 m q1) ?_
  refine own_st (g1 := (mkF m 1 #[.val (.long q1), .second] [(.long q1)])) (fun t k => XS.lloadN X0.here hx rfl (hb hby d1_0) rfl k) ?_
  refine own_st (g1 := (mkF m 2 #[.val (.long q1), .second] [(.long (0 : Int64)), (.long q1)])) (fun t k => XS.lconst X0.here hx rfl (hb hby d1_1) k) ?_
  refine own_st (g1 := (mkF m 3 #[.val (.long q1), .second] [(.int (lcmpW q1 (0 : Int64)))])) (fun t k => XS.lcmp X0.here hx rfl (hb hby d1_2) rfl k) ?_
  refine own_st (g1 := (mkF m 16 #[.val (.long q1), .second] [])) (fun t k => XS.ifYes X0.here hx rfl (pc0 := 3) (pc' := 16) rfl (hb hby d1_3) rfl ((if0 _ _).trans (tlt ((lw_gt _ _).mpr hp)).2.2.1) (by decide) (by decide) k) ?_
  refine own_st (g1 := (mkF m 17 #[.val (.long q1), .second] [(.long q1)])) (fun t k => XS.lloadN X0.here hx rfl (hb hby d1_16) rfl k) ?_
  refine own_st (g1 := (mkF m 20 #[.val (.long q1), .second] [(.long (2147483647 : Int64)), (.long q1)])) (X0.ldc2Long hx hown (mvT hZ (hw _ (List.mem_of_getElem? (i := 5) rfl))) (g := (mkF m 17 #[.val (.long q1), .second] [(.long q1)])) rfl (hb hby d1_17)) ?_
  refine own_st (g1 := (mkF m 21 #[.val (.long q1), .second] [(.int (lcmpW q1 (2147483647 : Int64)))])) (fun t k => XS.lcmp X0.here hx rfl (hb hby d1_20) rfl k) ?_
  refine own_st (g1 := (mkF m 34 #[.val (.long q1), .second] [])) (fun t k => XS.ifYes X0.here hx rfl (pc0 := 21) (pc' := 34) rfl (hb hby d1_21) rfl ((if0 _ _).trans (flt (fun q => hh ((lw_gt _ _).mp q))).2.2.2) (by decide) (by decide) k) ?_
  exact own_here X0 ⟨34, _, rfl, (hb hby d1_34), (by decide), (by decide), (by rw [e0]; exact ⟨rfl, Fr.nil n0, rfl⟩)⟩
theorem pn_0 : plainName "com/example/beckon/beckon/rest/ExpirationCheckPinLaw" = true := by first | (simp [plainName, overriddenIn]; done) | decide +kernel
theorem ef_0 (m : MethodId) (x0 : Int64) : entryFrame m #[(.long x0)] maxLocals = mkF m 0 #[.val (.long x0), .second, .unset, .unset] [] := by first | (simp [entryFrame, mkF, argsToLocals, Value.category, maxLocals]; done) | rfl
theorem pd_0 : parseMethodDescriptor "(J)V" = some ⟨[.long], none⟩ := by decide +kernel
def Q0 (h0 : Heap) (n0 : Nat) (v : Option Value) (h : Heap) (L : List Loc) : Prop := v = some (.int (1 : Int32)) ∧ Fr n0 L
set_option maxRecDepth 65536 in
set_option maxHeartbeats 40000000 in
theorem rm0 (l : Launch) (Z : State) (a0 : Array Value) (hw : ∀ d ∈ tables_1, d.before a0 Z = true) (ws : List Jvm.Cond) (q1 : Int64) (h0 : Heap) (n0 : Nat) (Z0 : n0 ≤ h0.size) :
    Meets l Z x code maxLocals ret ws room_1 #[(.long q1)] h0 0 0 (Q0 h0 n0) := by
  refine own_meets (plainFor_of_name pn_0) ?_
  intro p e s m below meth c s₁ hx hZ hby hml hown hnm hret hlk X0 e0
  have hown : s.vm.findClass "com/example/beckon/beckon/rest/ExpirationCheckPinLaw" = some m.cls := hown
  have hnm : meth.name = "law" := hnm
  refine own_finN (l := l) (R := room_1) (m := m) (args := #[(.long q1)]) (c := c) (by simp) hx hret hlk ?_
  refine own_cast (ef_0 m q1) ?_
  refine own_st (g1 := (mkF m 1 #[.val (.long q1), .second, .unset, .unset] [(.long (1 : Int64))])) (fun t k => XS.lconst X0.here hx rfl (hb hby at_0) k) ?_
  refine own_st (g1 := (mkF m 2 #[.val (.long q1), .second, .unset, .unset] [(.long q1), (.long (1 : Int64))])) (fun t k => XS.lloadN X0.here hx rfl (hb hby at_1) rfl k) ?_
  refine own_st (g1 := (mkF m 5 #[.val (.long q1), .second, .unset, .unset] [(.long (2147483647 : Int64)), (.long q1), (.long (1 : Int64))])) (X0.ldc2Long hx hown (mvT hZ (hw _ (List.mem_of_getElem? (i := 0) rfl))) (g := (mkF m 2 #[.val (.long q1), .second, .unset, .unset] [(.long q1), (.long (1 : Int64))])) rfl (hb hby at_2)) ?_
  refine own_st (g1 := (mkF m 6 #[.val (.long q1), .second, .unset, .unset] [(.long (q1 &&& (2147483647 : Int64))), (.long (1 : Int64))])) (fun t k => XS.land X0.here hx rfl (hb hby at_5) rfl k) ?_
  refine own_st (g1 := (mkF m 9 #[.val (.long q1), .second, .unset, .unset] [(.long (2147483647 : Int64)), (.long (q1 &&& (2147483647 : Int64))), (.long (1 : Int64))])) (X0.ldc2Long hx hown (mvT hZ (hw _ (List.mem_of_getElem? (i := 0) rfl))) (g := (mkF m 6 #[.val (.long q1), .second, .unset, .unset] [(.long (q1 &&& (2147483647 : Int64))), (.long (1 : Int64))])) rfl (hb hby at_6)) ?_
  refine own_st (g1 := (mkF m 10 #[.val (.long q1), .second, .unset, .unset] [(.long ((q1 &&& (2147483647 : Int64)) - ((q1 &&& (2147483647 : Int64)) / (2147483647 : Int64)) * (2147483647 : Int64))), (.long (1 : Int64))])) (fun t k => XS.lrem X0.here hx rfl (hb hby at_9) rfl (by decide) k) ?_
  refine own_st (g1 := (mkF m 11 #[.val (.long q1), .second, .unset, .unset] [(.long ((1 : Int64) + ((q1 &&& (2147483647 : Int64)) - ((q1 &&& (2147483647 : Int64)) / (2147483647 : Int64)) * (2147483647 : Int64))))])) (fun t k => XS.ladd X0.here hx rfl (hb hby at_10) rfl k) ?_
  refine own_st (g1 := (mkF m 12 #[.val (.long q1), .second, .val (.long (own_v q1)), .second] [])) (fun t k => XS.lstoreN X0.here hx rfl (hb hby at_11) rfl (l' := #[.val (.long q1), .second, .val (.long (own_v q1)), .second]) rfl k) ?_
  refine own_st (g1 := (mkF m 13 #[.val (.long q1), .second, .val (.long (own_v q1)), .second] [(.long (own_v q1))])) (fun t k => XS.lloadN X0.here hx rfl (hb hby at_12) rfl k) ?_
  refine own_st (g1 := (mkF m 14 #[.val (.long q1), .second, .val (.long (own_v q1)), .second] [(.long (1 : Int64)), (.long (own_v q1))])) (fun t k => XS.lconst X0.here hx rfl (hb hby at_13) k) ?_
  refine own_st (g1 := (mkF m 15 #[.val (.long q1), .second, .val (.long (own_v q1)), .second] [(.int (lcmpW (own_v q1) (1 : Int64)))])) (fun t k => XS.lcmp X0.here hx rfl (hb hby at_14) rfl k) ?_
  refine own_st (g1 := (mkF m 18 #[.val (.long q1), .second, .val (.long (own_v q1)), .second] [])) (fun t k => XS.ifNo X0.here hx rfl (hb hby at_15) rfl ((if0 _ _).trans (flt (fun q => (own_lo q1) ((lw_lt _ _).mp q))).1) k) ?_
  refine own_st (g1 := (mkF m 19 #[.val (.long q1), .second, .val (.long (own_v q1)), .second] [(.long (own_v q1))])) (fun t k => XS.lloadN X0.here hx rfl (hb hby at_18) rfl k) ?_
  refine own_st (g1 := (mkF m 22 #[.val (.long q1), .second, .val (.long (own_v q1)), .second] [(.long (2147483647 : Int64)), (.long (own_v q1))])) (X0.ldc2Long hx hown (mvT hZ (hw _ (List.mem_of_getElem? (i := 0) rfl))) (g := (mkF m 19 #[.val (.long q1), .second, .val (.long (own_v q1)), .second] [(.long (own_v q1))])) rfl (hb hby at_19)) ?_
  refine own_st (g1 := (mkF m 23 #[.val (.long q1), .second, .val (.long (own_v q1)), .second] [(.int (lcmpW (own_v q1) (2147483647 : Int64)))])) (fun t k => XS.lcmp X0.here hx rfl (hb hby at_22) rfl k) ?_
  refine own_st (g1 := (mkF m 28 #[.val (.long q1), .second, .val (.long (own_v q1)), .second] [])) (fun t k => XS.ifYes X0.here hx rfl (pc0 := 23) (pc' := 28) rfl (hb hby at_23) rfl ((if0 _ _).trans (flt (fun q => (own_hi q1) ((lw_gt _ _).mp q))).2.2.2) (by decide) (by decide) k) ?_
  refine own_st (g1 := (mkF m 29 #[.val (.long q1), .second, .val (.long (own_v q1)), .second] [(.long (own_v q1))])) (fun t k => XS.lloadN X0.here hx rfl (hb hby at_28) rfl k) ?_
  obtain ⟨_, _, ⟨T1, L1, k1, n1⟩, -, X1, ⟨Lc1, hQ1, l1, y1, z1⟩, st1⟩ := Jvm.LawKit.callS X0 hx (y := (⟨"com/example/beckon/beckon/rest/Expiration", "check", "(J)V"⟩ : MethodName)) hown (mvT hZ (hw _ (List.mem_of_getElem? (i := 1) rfl))) (mvT hZ (hw _ (List.mem_of_getElem? (i := 2) rfl))) (mvT hZ (hw _ (List.mem_of_getElem? (i := 3) rfl))) (mvT hZ (hw _ (List.mem_of_getElem? (i := 4) rfl))) (by decide) (backOf (W := 0) (rm1 l Z a0 hw [] (own_v q1) h0 n0 (own_pos q1) (own_hi q1)) hZ (hw _ (List.mem_of_getElem? (i := 4) rfl)) (hw _ (List.mem_of_getElem? (i := 3) rfl)) (by decide) (by decide)) (g := (mkF m 29 #[.val (.long q1), .second, .val (.long (own_v q1)), .second] [(.long (own_v q1))])) rfl (by rw [hml]; rfl) (argsL := [(.long (own_v q1))]) (rest := []) (lenOf pd_0 rfl) rfl (by show 2 * 0 + _ ≤ _; exact Nat.le_of_eq rfl) (hb hby at_29) (fun _ _ => ⟨rfl, e0, (by decide : 0 + 0 ≤ _), (by decide : 0 + 0 ≤ _)⟩)
  dsimp only [Pt.U, Pt.locs, Pt.cells, Pt.slots] at X1 l1 y1 z1 st1 hQ1
  subst l1 y1 z1
  obtain ⟨rfl, N1, hh1⟩ := hQ1
  refine own_st (g1 := (mkF m 32 #[.val (.long q1), .second, .val (.long (own_v q1)), .second] [])) (st1) ?_
  refine own_st (g1 := (mkF m 33 #[.val (.long q1), .second, .val (.long (own_v q1)), .second] [(.int (1 : Int32))])) (fun t k => XS.iconst X1.here hx rfl (hb hby at_32) k) ?_
  exact own_here X1 ⟨33, _, _, rfl, (hb hby at_33), rfl, (by decide), (by decide), ⟨rfl, Fr.app (Fr.nil n0) N1⟩⟩
set_option maxRecDepth 65536 in
set_option maxHeartbeats 40000000 in
theorem comes_1 {Post : Tables → Env → Array Value → State → Outcome → State → Prop} (hpost : ∀ tb e args s v u, (limb_1_1.after args s (.returned v) u = true ∧ limb_1_2.after args s (.returned v) u = true ∧ True) → FrameEnd s (.returned v) u (Jvm.fieldLocs frame_1_writes args s ++ Jvm.arrayLocs frame_1_arrays args s ++ Jvm.staticLocs frame_1_statics s) 0 0 → Post tb e args s (.returned v) u) :
    ArmFor flags0 classFile x code maxLocals ret World_1 tables_1 room_1 Calls_1 rest_1 Pre_1 Post := by
  intro l hfl _ _ p e ha hc hk s m args below hf hA hF happ hP
  obtain ⟨hcalls, hrest, hpre⟩ := hP
  obtain ⟨-, -, -, hnamed, -, -, -, hat⟩ := (Spec.applies_iff hf).mp happ
  obtain ⟨hg, hn⟩ := and_e (Cond.before_iff.mp (show (Jvm.Cond.and given_1 narrow_1).before args s = true from hpre))
  obtain ⟨gc, g0⟩ := and_e hg
  have a0 := g0
  obtain ⟨w0, rfl⟩ : ∃ w0 : Value, args = #[w0] := by
    have hs : args.size = 1 := by simpa [Cond.value, given_1] using gc
    obtain ⟨L⟩ := args
    match L, hs with
    | [w0], _ => exact ⟨w0, rfl⟩
  have hw := fun d (hd : d ∈ tables_1) => atoms_spec (ws := Jvm.Cond.code x code maxLocals ret :: tables_1) hat d (List.mem_cons_of_mem _ hd)
  obtain ⟨i0, ei0⟩ := isL_v a0
  obtain rfl : w0 = (.long i0) := Option.some.inj ei0
  obtain ⟨n, o, h1, h2, h3, _, L, rfl, ⟨rfl, N⟩, hq⟩ := rm0 l s _ hw tables_1 i0 s.heap s.heap.size (Nat.le_refl _) p e ha hc hk s m _ below hf ((Spec.applies_iff_loose hf).mp happ).1 ⟨rfl, State.Warmed39.refl s, rfl⟩ trivial
  refine ⟨n, _, h1, h2, h3, hpost _ _ _ _ _ _ ⟨Cond.after_iff.mpr rfl, Cond.after_iff.mpr (eq_i res_at (Term.int_eval (1)) rfl), trivial⟩ ⟨hq.1, hq.2.1, (hq.2.2.sift fun y hy => Or.inr (N y hy)).mono (by decide) (by decide)⟩⟩
theorem main_1_1 : Claimed_1_1 := comes_1 fun _ _ _ _ _ _ h hF => ⟨h.1, hF⟩
theorem main_1_2 : Claimed_1_2 := comes_1 fun _ _ _ _ _ _ h hF => ⟨h.2.1, hF⟩
end Jvm.Pilot.@@N@@
namespace Jvm.Pilot.@@N@@
open Jvm Jvm.ClassFile Sem Op Lib Jvm.Free Jvm.Stand Jvm.Pilot.@@N@@.Jvm.D
/-! MADE BY PROGRAM (witnessworld.py) out of the Statement's table words and the real class files: 9 classes; the members and pool entries that the words name. The judged class is class 1, her method 1. -/
namespace start1
open Jvm.ClassFile
def u (s : String) : CpInfo := .utf8 (stringToUtf16 s)
/-- a pool by its gaps: so many unusable entries, then the entry; so many at the end -/
def gap : Nat → List CpInfo → List CpInfo
  | 0, r => r
  | n + 1, r => .unusable :: gap n r
def poolList (es : List (Nat × CpInfo)) (last : Nat) : List CpInfo := es.foldr (fun e r => gap e.1 (e.2 :: r)) (gap last [])
def pool (es : List (Nat × CpInfo)) (last : Nat) : Array CpInfo := ⟨poolList es last⟩
def fileOf (pool : Array CpInfo) (this : Nat) (attrs : Array Attribute := #[]) (ms : Array MethodInfo := #[]) (fl : Nat := 33) (sup : Nat := 0) (ifs : Array Nat := #[]) (fds : Array FieldInfo := #[]) : ClassFile where
  minorVersion := 0
  majorVersion := 65
  constantPool := pool
  accessFlags := fl
  thisClass := this
  superClass := sup
  interfaces := ifs
  fields := fds
  methods := ms
  attributes := attrs
def plain (name : String) (sup : Option ClassId) : Class where
  name := name
  kind := .ordinary
  loader := none
  accessFlags := 33
  super := sup
  interfaces := #[]
  cf := none
  fields := #[]
  methods := #[]
  instanceTypes := #[]
  staticTypes := #[]
  resolved := #[]
  callSites := []
  init := .initialized
  statics := none
  mirror := none

def pool0 : Array CpInfo := pool [(5, u "<init>"), (0, u "()V"), (1, .class_ 10), (1, u "java/lang/Object")] 113

def k0m0 : Method := { name := "<init>", desc := "()V", sig := { parameters := [], returnType := none }, accessFlags := 1, code := none }
/-- java/lang/Object -/
def k0 : Class := { plain "java/lang/Object" none with
  accessFlags := 33
  interfaces := #[]
  cf := some (fileOf pool0 8 #[] #[{ accessFlags := 1, nameIndex := 5, descriptorIndex := 6, attributes := #[] }] 33 0 #[] #[])
  fields := #[]
  methods := #[k0m0]
  instanceTypes := #[]
  staticTypes := #[]
  resolved := Array.replicate 124 none
  statics := none }

def pool1 : Array CpInfo := pool [(2, .class_ 4), (1, u "java/lang/Object"), (0, u "<init>"), (0, u "()V"), (0, .long 2147483647), (1, .class_ 10), (0, u "com/example/beckon/beckon/rest/Expiration"), (0, .methodref 9 12), (0, .nameAndType 13 14), (0, u "check"), (0, u "(J)V"), (0, .class_ 16), (0, u "com/example/beckon/beckon/rest/ExpirationCheckPinLaw"), (2, u "law"), (0, u "(J)Z")] 3

def k1m0 : Method := { name := "<init>", desc := "()V", sig := { parameters := [], returnType := none }, accessFlags := 2, code := none }
def k1c1 : Code := { maxStack := 6, maxLocals := 4, code := code, exceptionTable := #[], attributes := #[] }
def k1m1 : Method := { name := "law", desc := "(J)Z", sig := { parameters := [.long], returnType := some .boolean }, accessFlags := 9, code := some k1c1 }
/-- com/example/beckon/beckon/rest/ExpirationCheckPinLaw -/
def k1 : Class := { plain "com/example/beckon/beckon/rest/ExpirationCheckPinLaw" (some 0) with
  accessFlags := 49
  interfaces := #[]
  cf := some (fileOf pool1 15 #[] #[{ accessFlags := 2, nameIndex := 5, descriptorIndex := 6, attributes := #[] }, { accessFlags := 9, nameIndex := 19, descriptorIndex := 20, attributes := #[] }] 49 2 #[] #[])
  fields := #[]
  methods := #[k1m0, k1m1]
  instanceTypes := #[]
  staticTypes := #[]
  resolved := Array.replicate 24 none
  statics := none }

def pool2 : Array CpInfo := pool [(4, .class_ 6), (1, u "java/lang/Object"), (0, u "<init>"), (0, u "()V"), (7, .class_ 17), (0, u "com/example/beckon/beckon/rest/Expiration"), (0, .long 2147483647), (3, u "MAX_SECONDS"), (0, u "J"), (3, u "check"), (0, u "(J)V")] 3

def k2m0 : Method := { name := "<init>", desc := "()V", sig := { parameters := [], returnType := none }, accessFlags := 2, code := none }
def k2c1 : Code := { maxStack := 4, maxLocals := 2, code := prog_2_method_2_code, exceptionTable := #[], attributes := #[] }
def k2m1 : Method := { name := "check", desc := "(J)V", sig := { parameters := [.long], returnType := none }, accessFlags := 8, code := some k2c1 }
/-- com/example/beckon/beckon/rest/Expiration -/
def k2 : Class := { plain "com/example/beckon/beckon/rest/Expiration" (some 0) with
  accessFlags := 48
  interfaces := #[]
  cf := some (fileOf pool2 16 #[] #[{ accessFlags := 2, nameIndex := 7, descriptorIndex := 8, attributes := #[] }, { accessFlags := 8, nameIndex := 27, descriptorIndex := 28, attributes := #[] }] 48 4 #[] #[{ accessFlags := 24, nameIndex := 22, descriptorIndex := 23, attributes := #[] }])
  fields := #[{ name := "MAX_SECONDS", type := .long, accessFlags := 24, slot := 0, constantValue := 0 }]
  methods := #[k2m0, k2m1]
  instanceTypes := #[]
  staticTypes := #[.long]
  resolved := Array.replicate 32 none
  statics := none }

def pool3 : Array CpInfo := pool [(1, u "java/lang/Cloneable"), (0, .class_ 1), (0, u "java/lang/Object"), (0, .class_ 3)] 3

/-- java/lang/Cloneable -/
def k3 : Class := { plain "java/lang/Cloneable" (some 0) with
  accessFlags := 1537
  interfaces := #[]
  cf := some (fileOf pool3 2 #[] #[] 1537 4 #[] #[])
  fields := #[]
  methods := #[]
  instanceTypes := #[]
  staticTypes := #[]
  resolved := Array.replicate 8 none
  statics := none }

def pool4 : Array CpInfo := pool [(1, u "java/io/Serializable"), (0, .class_ 1), (0, u "java/lang/Object"), (0, .class_ 3)] 3

/-- java/io/Serializable -/
def k4 : Class := { plain "java/io/Serializable" (some 0) with
  accessFlags := 1537
  interfaces := #[]
  cf := some (fileOf pool4 2 #[] #[] 1537 4 #[] #[])
  fields := #[]
  methods := #[]
  instanceTypes := #[]
  staticTypes := #[]
  resolved := Array.replicate 8 none
  statics := none }

/-- the primitive byte -/
def k5 : Class := { plain "byte" none with kind := .primitive 'B', accessFlags := 0x411 }
/-- [B -/
def k6 : Class := { plain "[B" (some 0) with kind := .array 5 .byte, interfaces := #[3, 4], accessFlags := 1041 }

/-- the primitive int -/
def k7 : Class := { plain "int" none with kind := .primitive 'I', accessFlags := 0x411 }
/-- [I -/
def k8 : Class := { plain "[I" (some 0) with kind := .array 7 .int, interfaces := #[3, 4], accessFlags := 1041 }

def heap : Heap := #[]
def classes : Array Class := #[k0, k1, k2, k3, k4, k5, k6, k7, k8]
def interned : List (Array UInt16 × Addr) := []
def slotsUsed : Nat := 0
def theMethod : MethodId := ⟨1, 1⟩
def args0 : Array Value := #[.long 5]
def aboutOver (below : List Frame) : State where
  vm := { classes := classes, interned := interned.toArray }
  heap := heap
  slotsUsed := slotsUsed
  threads := #[{ frames := .invoking theMethod args0 :: below }]
def below0 : List Frame := [.native { method := ⟨0, 0⟩, args := #[] }]
def about1 : State := aboutOver below0
def p0 : Program := .bare "" "" ""
def e0 : Env := launch0.env 0 0 0
theorem w_frames : about1.frames = Frame.invoking theMethod args0 :: below0 := rfl
set_option maxRecDepth 65536 in
theorem w_args : argsFit about1.vm theMethod args0 = true := by decide +kernel
set_option maxRecDepth 65536 in
theorem w_heap : heapFits about1 = true := by decide +kernel
set_option maxRecDepth 65536 in
theorem w_runnable : about1.curStatus? = some .runnable := by decide +kernel
set_option maxRecDepth 65536 in
theorem w_alone : about1.alone = true := by decide +kernel
set_option maxRecDepth 65536 in
theorem w_named : about1.methodNamed? x = some theMethod := by decide +kernel
set_option maxRecDepth 65536 in
theorem w_hears : about1.hears theMethod below0 = true := by decide +kernel
set_option maxRecDepth 65536 in
theorem w_ripe : about1.ripe theMethod args0 below0 = true := by decide +kernel
theorem w_running : about1.status = .running := rfl
set_option maxRecDepth 65536 in
theorem w_room : about1.hasRoom e0.platform room_1 = true :=
  launch0.hasRoom_least _ room_1 (by decide +kernel) (by decide +kernel) (by decide +kernel) (by decide +kernel) (by decide +kernel) (by decide +kernel)
theorem allAtoms_all (ts : List Jvm.Cond) (a : Array Jvm.Value) (st : Jvm.State) : (allAtoms ts).before a st = ts.all (fun c => c.before a st) := by
  induction ts with
  | nil => rfl
  | cons c t ih =>
    show (Jvm.Cond.and c (allAtoms t)).before a st = _
    rw [Jvm.Cond.before_and, ih, List.all_cons]
def words1 : List Jvm.Cond := Jvm.Cond.code x code maxLocals ret :: tables_1
/-- a 'code' word, met by the world's own term for the bytes: nothing is compared byte by byte -/
theorem code_word {y : MethodName} {bytes : ByteArray} {mx : Nat} {rt : Option FieldType} {a : Array Value} {s : State} {m : MethodId} {meth : Method} {c : Code} (h1 : s.methodNamed? y = some m) (h2 : s.vm.method? m = some meth) (h3 : meth.code = some c) (h4 : c.code = bytes)
    (h5 : (c.maxLocals == mx && c.exceptionTable.isEmpty && decide (c.maxStack ≤ mostOperands) && decide (meth.sig.returnType = rt) && !meth.locks && decide (parseMethodDescriptor y.desc = some meth.sig)) = true) : (Jvm.Cond.code y bytes mx rt).before a s = true := by
  simp only [Bool.and_eq_true, beq_iff_eq, Bool.not_eq_true', decide_eq_true_eq] at h5
  obtain ⟨⟨⟨⟨⟨g1, g2⟩, g3⟩, g4⟩, g5⟩, g6⟩ := h5
  simp [Cond.before, Cond.holds, Cond.value, h1, h2, h3, h4, g1, g2, g3, g4, g5, g6]
def isCode : Jvm.Cond → Bool
  | .code _ _ _ _ => true
  | _ => false
theorem all_split {L : List Jvm.Cond} {P : Jvm.Cond → Bool} (h1 : L.all (fun c => isCode c || P c) = true) (h2 : ∀ c ∈ L.filter isCode, P c = true) : L.all P = true := by
  refine List.all_eq_true.mpr fun c hc => ?_
  have h := List.all_eq_true.mp h1 c hc
  rcases Bool.eq_false_or_eq_true (isCode c) with hi | hi
  · exact h2 c (List.mem_filter.mpr ⟨hc, hi⟩)
  · simpa [hi] using h
set_option maxRecDepth 65536 in
theorem w_c0 : (Jvm.Cond.code x code maxLocals ret).before args0 about1 = true := code_word (m := ⟨1, 1⟩) (meth := k1m1) (c := k1c1) (by decide +kernel) rfl rfl rfl (by decide +kernel)
set_option maxRecDepth 65536 in
theorem w_c1 : (Jvm.Cond.code ({ cls := "com/example/beckon/beckon/rest/Expiration", name := "check", desc := "(J)V" } : Jvm.MethodName) prog_2_method_2_code (2 : Nat) (Option.none : Option Jvm.ClassFile.FieldType)).before args0 about1 = true := code_word (m := ⟨2, 1⟩) (meth := k2m1) (c := k2c1) (by decide +kernel) rfl rfl rfl (by decide +kernel)
def codes1 : List Jvm.Cond := [Jvm.Cond.code x code maxLocals ret, Jvm.Cond.code ({ cls := "com/example/beckon/beckon/rest/Expiration", name := "check", desc := "(J)V" } : Jvm.MethodName) prog_2_method_2_code (2 : Nat) (Option.none : Option Jvm.ClassFile.FieldType)]
set_option maxRecDepth 65536 in
theorem codes_eq : words1.filter isCode = codes1 := rfl
theorem w_codes : ∀ c ∈ words1.filter isCode, c.before args0 about1 = true := by
  rw [codes_eq]
  intro c hc
  simp only [codes1, List.mem_cons, List.not_mem_nil, or_false] at hc
  rcases hc with rfl | rfl
  · exact w_c0
  · exact w_c1
set_option maxRecDepth 65536 in
theorem w_t1 : words1.all (fun c => isCode c || c.before args0 about1) = true := by decide +kernel
theorem w_tables : (allAtoms (Jvm.Cond.code x code maxLocals ret :: tables_1)).before args0 about1 = true := by
  rw [allAtoms_all]
  show words1.all (fun c => c.before args0 about1) = true
  refine all_split ?_ w_codes
  rw [w_t1]
set_option maxRecDepth 65536 in
theorem w_case : (Jvm.Cond.and given_1 narrow_1).before args0 about1 = true := by decide +kernel
theorem w_applies : (headSpec (Jvm.Cond.code x code maxLocals ret :: tables_1) room_1).applies x e0.platform about1 = true :=
  (Spec.applies_iff w_frames).mpr ⟨w_running, w_runnable, w_alone, w_named, w_hears, w_ripe, w_room, w_tables⟩
theorem atStart : AtStart classFile x code maxLocals ret World_1 tables_1 room_1 Calls_1 rest_1 Pre_1 launch0 p0 e0 about1 theMethod args0 below0 :=
  ⟨lists_1, trivial, launch0.admits_env _ _ _, launch0.least_env, fairChoices_fair.cas, fairChoices_fair.clock, w_frames, w_args, w_heap, w_applies, trivial, trivial, w_case⟩
end start1
theorem witness_1 : WitnessClaimed_1 := ⟨start1.p0, start1.e0, start1.about1, start1.theMethod, start1.args0, start1.below0, start1.atStart⟩
end Jvm.Pilot.@@N@@
