import JvmDerived
import JvmDerived.Pilot.@@N@@Statement
import JvmDerived.Pilot.@@N@@Code
set_option linter.unusedVariables false
set_option linter.unusedSimpArgs false
namespace Jvm.Pilot.@@N@@
open Jvm Jvm.ClassFile Sem Op Lib Jvm.Free Jvm.Stand Jvm.LawKit Jvm.RoadKit Bundle Jvm.Pilot.@@N@@.Jvm.D
section Own
variable {p : Program} {l : Launch} {e : Env} {R : Room} {s : State} {m : MethodId} {args : Array Value} {below : List Frame} {meth : Method} {c : Code} {T T0 T1 : State} {g0 g1 : JFrame} {locs : List Loc} {cells slots : Nat} {Z : State} {h h' h0 : Heap} {a b : Nat}
/-- the run goes from T0 with the frame g0 to a state of which P holds -/
def Goes (p : Program) (l : Launch) (e : Env) (R : Room) (s : State) (m : MethodId) (args : Array Value) (below : List Frame) (meth : Method) (c : Code) (T0 : State) (g0 : JFrame) (P : State → List Loc → Nat → Nat → JFrame → Prop) : Prop :=
  ∃ T' L' k' n' g', Stand p l e R s m args below meth c T' L' k' n' ∧ P T' L' k' n' g' ∧ ∀ t, Steps p.tables e below (T'.setTop g') t → Steps p.tables e below (T0.setTop g0) t
variable {P Q : State → List Loc → Nat → Nat → JFrame → Prop}
theorem own_st (st : ∀ t, Steps p.tables e below (T1.setTop g1) t → Steps p.tables e below (T0.setTop g0) t) (k : Goes p l e R s m args below meth c T1 g1 P) : Goes p l e R s m args below meth c T0 g0 P := by
  obtain ⟨T', L', k', n', g', X, hP, q⟩ := k
  exact ⟨T', L', k', n', g', X, hP, fun t r => st t (q t r)⟩
theorem own_here (X : Stand p l e R s m args below meth c T0 locs cells slots) (hP : P T0 locs cells slots g0) : Goes p l e R s m args below meth c T0 g0 P :=
  ⟨T0, locs, cells, slots, g0, X, hP, fun _ r => r⟩
theorem own_bind (k : Goes p l e R s m args below meth c T0 g0 P) (q : ∀ T' L' k' n' g', Stand p l e R s m args below meth c T' L' k' n' → P T' L' k' n' g' → Goes p l e R s m args below meth c T' g' Q) : Goes p l e R s m args below meth c T0 g0 Q := by
  obtain ⟨T', L', k', n', g', X, hP, st⟩ := k
  exact own_st st (q T' L' k' n' g' X hP)
theorem own_cast (q : g0 = g1) (k : Goes p l e R s m args below meth c T0 g1 P) : Goes p l e R s m args below meth c T0 g0 P := by subst q; exact k
/-- the frame stands before a return of nothing -/
def EndV (m : MethodId) (c : Code) (K N : Nat) (Q : Option Value → Heap → List Loc → Prop) (T : State) (L : List Loc) (k n : Nat) (g : JFrame) : Prop := ∃ pc Ls, g = mkF m pc Ls [] ∧ decode c.code pc = .ok (.return_, 1) ∧ k ≤ K ∧ n ≤ N ∧ Q none T.heap L
/-- the frame stands before the return of an int of the kind t -/
def EndN (m : MethodId) (c : Code) (t : FieldType) (K N : Nat) (Q : Option Value → Heap → List Loc → Prop) (T : State) (L : List Loc) (k n : Nat) (g : JFrame) : Prop := ∃ pc Ls z, g = mkF m pc Ls [.int z] ∧ decode c.code pc = .ok (.ireturn, 1) ∧ narrow t (.int z) = .int z ∧ k ≤ K ∧ n ≤ N ∧ Q (some (.int z)) T.heap L
def EndJ (m : MethodId) (c : Code) (K N : Nat) (Q : Option Value → Heap → List Loc → Prop) (T : State) (L : List Loc) (k n : Nat) (g : JFrame) : Prop := ∃ pc Ls z, g = mkF m pc Ls [.long z] ∧ decode c.code pc = .ok (.lreturn, 1) ∧ k ≤ K ∧ n ≤ N ∧ Q (some (.long z)) T.heap L
def EndA (m : MethodId) (c : Code) (K N : Nat) (Q : Option Value → Heap → List Loc → Prop) (T : State) (L : List Loc) (k n : Nat) (g : JFrame) : Prop := ∃ pc Ls z, g = mkF m pc Ls [.ref z] ∧ decode c.code pc = .ok (.areturn, 1) ∧ k ≤ K ∧ n ≤ N ∧ Q (some (.ref z)) T.heap L
theorem own_finV {K N : Nat} {Q : Option Value → Heap → List Loc → Prop} (hx : p.tables.exec = Jvm.exec) (hret : meth.sig.returnType = none) (hlk : meth.locks = false) (G : Goes p l e R s m args below meth c T0 g0 (EndV m c K N Q)) :
    ∃ s₂ o, Steps p.tables e below (T0.setTop g0) s₂ ∧ s₂.status = .running ∧ Ended s₂ below o ∧ ∃ v L, o = .returned v ∧ Q v s₂.heap L ∧ FrameEnd s o s₂ L K N := by
  obtain ⟨T', L', k', n', g', X, ⟨pc, Ls, rfl, hd, hk, hn, hQ⟩, st⟩ := G
  obtain ⟨fs, hr, hrun, hended, hW, hsame⟩ := X.leave (v := none) (fun _ => rfl) hlk
  exact ⟨_, _, st _ (X.returnOut hx hret hd hr), hrun, hended, _, _, rfl, hQ, ⟨_, rfl⟩, hW, hsame.mono hk hn⟩
theorem own_finN {t : FieldType} {K N : Nat} {Q : Option Value → Heap → List Loc → Prop} (hti : t = .int ∨ t = .boolean ∨ t = .byte ∨ t = .char ∨ t = .short) (hx : p.tables.exec = Jvm.exec) (hret : meth.sig.returnType = some t) (hlk : meth.locks = false) (G : Goes p l e R s m args below meth c T0 g0 (EndN m c t K N Q)) :
    ∃ s₂ o, Steps p.tables e below (T0.setTop g0) s₂ ∧ s₂.status = .running ∧ Ended s₂ below o ∧ ∃ v L, o = .returned v ∧ Q v s₂.heap L ∧ FrameEnd s o s₂ L K N := by
  obtain ⟨T', L', k', n', g', X, ⟨pc, Ls, z, rfl, hd, hz, hk, hn, hQ⟩, st⟩ := G
  obtain ⟨fs, hr, hrun, hended, hW, hsame⟩ := X.leave (v := some (.int z)) (fun h => by rw [hret] at h; cases h) hlk
  exact ⟨_, _, st _ (X.ireturnOut hx hret hz hti hd hr), hrun, hended, _, _, rfl, hQ, ⟨_, rfl⟩, hW, hsame.mono hk hn⟩
theorem own_finJ {K N : Nat} {Q : Option Value → Heap → List Loc → Prop} (hx : p.tables.exec = Jvm.exec) (hret : meth.sig.returnType = some .long) (hlk : meth.locks = false) (G : Goes p l e R s m args below meth c T0 g0 (EndJ m c K N Q)) :
    ∃ s₂ o, Steps p.tables e below (T0.setTop g0) s₂ ∧ s₂.status = .running ∧ Ended s₂ below o ∧ ∃ v L, o = .returned v ∧ Q v s₂.heap L ∧ FrameEnd s o s₂ L K N := by
  obtain ⟨T', L', k', n', g', X, ⟨pc, Ls, z, rfl, hd, hk, hn, hQ⟩, st⟩ := G
  obtain ⟨fs, hr, hrun, hended, hW, hsame⟩ := X.leave (v := some (.long z)) (fun h => by rw [hret] at h; cases h) hlk
  exact ⟨_, _, st _ (X.lreturnOut hx hret hd hr), hrun, hended, _, _, rfl, hQ, ⟨_, rfl⟩, hW, hsame.mono hk hn⟩
theorem own_finA {t : FieldType} {K N : Nat} {Q : Option Value → Heap → List Loc → Prop} (ht : t.isReference = true) (hx : p.tables.exec = Jvm.exec) (hret : meth.sig.returnType = some t) (hlk : meth.locks = false) (G : Goes p l e R s m args below meth c T0 g0 (EndA m c K N Q)) :
    ∃ s₂ o, Steps p.tables e below (T0.setTop g0) s₂ ∧ s₂.status = .running ∧ Ended s₂ below o ∧ ∃ v L, o = .returned v ∧ Q v s₂.heap L ∧ FrameEnd s o s₂ L K N := by
  obtain ⟨T', L', k', n', g', X, ⟨pc, Ls, z, rfl, hd, hk, hn, hQ⟩, st⟩ := G
  obtain ⟨fs, hr, hrun, hended, hW, hsame⟩ := X.leave (v := some (.ref z)) (fun h => by rw [hret] at h; cases h) hlk
  exact ⟨_, _, st _ (X.areturnOut hx rfl hret ht hd hr), hrun, hended, _, _, rfl, hQ, ⟨_, rfl⟩, hW, hsame.mono hk hn⟩
/-- a method's contract -/
abbrev Meets (l : Launch) (Z : State) (y : MethodName) (bytes : ByteArray) (maxL : Nat) (ret : Option FieldType) (ws : List Jvm.Cond) (rm : Room) (A : Array Value) (h0 : Heap) (K N : Nat) (Q : Option Value → Heap → List Loc → Prop) : Prop :=
  MetFree l y (head1 (Jvm.Cond.code y bytes maxL ret :: ws) rm) (fun a U => a = A ∧ Z.Warmed39 U.vm ∧ U.heap = h0) (fun _ _ _ _ _ => True) (fun _ U o U' => ∃ v L, o = .returned v ∧ Q v U'.heap L ∧ FrameEnd U o U' L K N)
theorem own_meets {y : MethodName} {bytes : ByteArray} {maxL K N : Nat} {ret : Option FieldType} {ws : List Jvm.Cond} {rm : Room} {A : Array Value} {Q : Option Value → Heap → List Loc → Prop} (hp : plainFor y = true)
    (body : ∀ p e s m below meth c s₁, p.tables.exec = Jvm.exec → Z.Warmed39 s.vm → c.code = bytes → c.maxLocals = maxL → s.vm.findClass y.cls = some m.cls → meth.name = y.name → meth.sig.returnType = ret → meth.locks = false → Stand p l e rm s m A below meth c s₁ [] 0 0 → s₁.heap = h0 →
      ∃ s₂ o, Steps p.tables e below (s₁.setTop (entryFrame m A maxL)) s₂ ∧ s₂.status = .running ∧ Ended s₂ below o ∧ ∃ v L, o = .returned v ∧ Q v s₂.heap L ∧ FrameEnd s o s₂ L K N) : Meets l Z y bytes maxL ret ws rm A h0 K N Q := by
  refine MetFree.of_bodySF hp hisR ?_
  intro p e s m args below meth c s₁ Bd hml0 hP hK
  obtain ⟨rfl, hZ, hh⟩ := hP
  exact body p e s m below meth c s₁ Bd.exec hZ Bd.bytes hml0 (findClass_of_methodNamed Bd.named) (name_of_methodNamed Bd.named Bd.method).1 Bd.returns Bd.notSynchronized (Stand.of_body Bd) (by rw [← hh, Bd.state]; rfl)
theorem own_fl {C n d : String} {v : Value} (F : Fld Z h a C n d v) : @LT.lt Nat _ a h.size := F.lt
theorem own_el {C : String} (F : Exa Z h a C) : @LT.lt Nat _ a h.size := F.lt
/-- the array at a holds the n values f 0, f 1 .. -/
def VA (Z : State) (h : Heap) (a : Nat) (ty : FieldType) (n : Nat) (f : Nat → Value) : Prop := ∃ cl : Cell, Arr Z h a cl ty ∧ cl.slots.size = n ∧ ∀ j, j < n → cl.slots[j]? = some (f j)
variable {ty : FieldType} {n : Nat} {f : Nat → Value}
theorem VA.lt (A : VA Z h a ty n f) : @LT.lt Nat _ a h.size := by obtain ⟨cl, A, -⟩ := A; exact A.lt
theorem VA.ext (A : VA Z h a ty n f) (E : Ext h h') : VA Z h' a ty n f := by obtain ⟨cl, A, r⟩ := A; exact ⟨cl, A.ext E, r⟩
theorem VA.other {sl : Nat} {v : Value} (A : VA Z h b ty n f) (W : Wr h h' a sl v) (q : b ≠ a) : VA Z h' b ty n f := by obtain ⟨cl, A, r⟩ := A; exact ⟨cl, A.other W q, r⟩
theorem VA.keep {ws : List Addr} (A : VA Z h a ty n f) (K : Keep h h' ws) (q : a ∉ ws) : VA Z h' a ty n f := by obtain ⟨cl, A, r⟩ := A; exact ⟨cl, ⟨K.2.1 a cl A.1 q, A.2⟩, r⟩
theorem VA.congr {f' : Nat → Value} (A : VA Z h a ty n f) (q : ∀ j, j < n → f j = f' j) : VA Z h a ty n f' := by obtain ⟨cl, A, S, H⟩ := A; exact ⟨cl, A, S, fun j hj => by rw [← q j hj]; exact H j hj⟩
theorem own_slots (cl : Cell) (i : Nat) (v : Value) : (cl.setSlot i v).slots = cl.slots.setIfInBounds i v := rfl
theorem VA.set {i : Nat} {v : Value} (A : VA Z h a ty n f) (W : Wr h h' a i v) : VA Z h' a ty n (fun j => if j = i then v else f j) := by
  obtain ⟨cl, A, S, H⟩ := A
  refine ⟨_, A.same W, by rw [sz_set]; exact S, fun j hj => ?_⟩
  rw [own_slots]
  show _ = some (if j = i then v else f j)
  by_cases u : i = j
  · subst u; rw [if_pos rfl, Array.getElem?_setIfInBounds_self_of_lt (by rw [S]; exact hj)]
  · rw [if_neg (fun q => u q.symm), Array.getElem?_setIfInBounds_ne u]; exact H j hj
theorem own_newslots (k : ClassId) (ty : FieldType) (z : Int32) : (newA k ty z).slots = Array.replicate z.toNatClampNeg (defaultValue ty) := rfl
theorem VA.new {k : ClassId} {z : Int32} (A : Arr Z h a (newA k ty z) ty) (hn : z.toNatClampNeg = n) : VA Z h a ty n (fun _ => defaultValue ty) := by
  refine ⟨_, A, by rw [sz_new, hn], fun j hj => ?_⟩
  rw [own_newslots, hn, Array.getElem?_replicate, if_pos hj]
/-- place i of f turned to x -/
def upd {α : Type} (f : Nat → α) (i : Nat) (x : α) (j : Nat) : α := if j = i then x else f j
theorem VA.setI {i : Nat} {x : Int32} {f : Nat → Int32} (A : VA Z h a ty n (fun j => .int (f j))) (W : Wr h h' a i (.int x)) : VA Z h' a ty n (fun j => .int (upd f i x j)) :=
  (A.set W).congr fun j _ => by simp only [upd]; split <;> rfl
theorem VA.setJ {i : Nat} {x : Int64} {f : Nat → Int64} (A : VA Z h a ty n (fun j => .long (f j))) (W : Wr h h' a i (.long x)) : VA Z h' a ty n (fun j => .long (upd f i x j)) :=
  (A.set W).congr fun j _ => by simp only [upd]; split <;> rfl
theorem own_nn {j : Nat} (hj : j < 2147483648) : ¬ Int32.ofNat j < 0 := by
  rw [Int32.lt_iff_toInt_lt, Int32.toInt_ofNat_of_lt hj, show (0 : Int32).toInt = 0 from rfl]; omega
theorem own_n32 {j : Nat} (hj : j < 2147483648) : (Int32.ofNat j).toNatClampNeg = j := by
  rw [Int32.toNatClampNeg, Int32.toInt_ofNat_of_lt hj]; rfl
theorem own_lt {i j : Nat} (hi : i < 2147483648) (hj : j < 2147483648) : Int32.ofNat i < Int32.ofNat j ↔ i < j := by
  rw [Int32.lt_iff_toInt_lt, Int32.toInt_ofNat_of_lt hi, Int32.toInt_ofNat_of_lt hj]; omega
theorem own_eq {i j : Nat} (hi : i < 2147483648) (hj : j < 2147483648) : Int32.ofNat i = Int32.ofNat j ↔ i = j := by
  rw [← Int32.toInt_inj, Int32.toInt_ofNat_of_lt hi, Int32.toInt_ofNat_of_lt hj]; omega
theorem own_in {i : Int32} {j k : Nat} (hi : i = Int32.ofNat j) (hj : j < k) (hb : k ≤ 2147483648) : ¬ (i < 0 ∨ k ≤ i.toNatClampNeg) := by
  subst hi; rw [own_n32 (by omega)]; exact fun q => q.elim (own_nn (by omega)) (fun q => by omega)
theorem own_len (X : Stand p l e R s m args below meth c T locs cells slots) (hx : p.tables.exec = Jvm.exec) (hZ : Z.Warmed39 s.vm) (eT : T.heap = h) (A : VA Z h a ty n f) {N : Int32} (hN : N = Int32.ofNat n) {g : JFrame} (hg : g.method = m) {rest : List Value} (hs : g.stack = .ref a :: rest) (hd : decode c.code g.pc = .ok (.arraylength, 1)) :
    ∀ t, Steps p.tables e below (T.setTop { g with pc := g.pc + 1, stack := .int N :: rest }) t → Steps p.tables e below (T.setTop g) t := by
  obtain ⟨cl, A, S, H⟩ := A
  intro t k
  refine X.arraylength hx (by rw [eT]; exact A.1) (State.isArrayOf_alike hZ.alike A.2.1) hg hs hd _ ?_
  rw [S, show n.toInt32 = N from hN.symm]
  exact k
theorem own_ild (X : Stand p l e R s m args below meth c T locs cells slots) (hx : p.tables.exec = Jvm.exec) (hZ : Z.Warmed39 s.vm) (eT : T.heap = h) (A : VA Z h a .int n f) {i : Int32} {j : Nat} {v : Value} (hi : i = Int32.ofNat j) (hj : j < n) (hb : n ≤ 2147483648) (hv : f j = v) {g : JFrame} (hg : g.method = m) {rest : List Value} (hs : g.stack = .int i :: .ref a :: rest) (hd : decode c.code g.pc = .ok (.iaload, 1)) :
    ∀ t, Steps p.tables e below (T.setTop { g with pc := g.pc + 1, stack := v :: rest }) t → Steps p.tables e below (T.setTop g) t := by
  obtain ⟨cl, A, S, H⟩ := A
  exact X.iaload hx (by rw [eT]; exact A.1) (State.isArrayOf_alike hZ.alike A.2.1) A.2.2 (by rw [S]; exact own_in hi hj hb) (by rw [hi, own_n32 (by omega), H j hj, hv]) hg hs hd
theorem own_jld (X : Stand p l e R s m args below meth c T locs cells slots) (hx : p.tables.exec = Jvm.exec) (hZ : Z.Warmed39 s.vm) (eT : T.heap = h) (A : VA Z h a .long n f) {i : Int32} {j : Nat} {v : Value} (hi : i = Int32.ofNat j) (hj : j < n) (hb : n ≤ 2147483648) (hv : f j = v) {g : JFrame} (hg : g.method = m) {rest : List Value} (hs : g.stack = .int i :: .ref a :: rest) (hd : decode c.code g.pc = .ok (.laload, 1)) :
    ∀ t, Steps p.tables e below (T.setTop { g with pc := g.pc + 1, stack := v :: rest }) t → Steps p.tables e below (T.setTop g) t := by
  obtain ⟨cl, A, S, H⟩ := A
  exact X.laload hx (by rw [eT]; exact A.1) (State.isArrayOf_alike hZ.alike A.2.1) A.2.2 (by rw [S]; exact own_in hi hj hb) (by rw [hi, own_n32 (by omega), H j hj, hv]) hg hs hd
theorem own_cld (X : Stand p l e R s m args below meth c T locs cells slots) (hx : p.tables.exec = Jvm.exec) (hZ : Z.Warmed39 s.vm) (eT : T.heap = h) (A : VA Z h a .char n f) {i : Int32} {j : Nat} {v : Value} (hi : i = Int32.ofNat j) (hj : j < n) (hb : n ≤ 2147483648) (hv : f j = v) {g : JFrame} (hg : g.method = m) {rest : List Value} (hs : g.stack = .int i :: .ref a :: rest) (hd : decode c.code g.pc = .ok (.caload, 1)) :
    ∀ t, Steps p.tables e below (T.setTop { g with pc := g.pc + 1, stack := v :: rest }) t → Steps p.tables e below (T.setTop g) t := by
  obtain ⟨cl, A, S, H⟩ := A
  exact X.caload hx (by rw [eT]; exact A.1) (State.isArrayOf_alike hZ.alike A.2.1) A.2.2 (by rw [S]; exact own_in hi hj hb) (by rw [hi, own_n32 (by omega), H j hj, hv]) hg hs hd
theorem own_bld (X : Stand p l e R s m args below meth c T locs cells slots) (hx : p.tables.exec = Jvm.exec) (hZ : Z.Warmed39 s.vm) (eT : T.heap = h) (A : VA Z h a .byte n f) {i : Int32} {j : Nat} {v : Value} (hi : i = Int32.ofNat j) (hj : j < n) (hb : n ≤ 2147483648) (hv : f j = v) {g : JFrame} (hg : g.method = m) {rest : List Value} (hs : g.stack = .int i :: .ref a :: rest) (hd : decode c.code g.pc = .ok (.baload, 1)) :
    ∀ t, Steps p.tables e below (T.setTop { g with pc := g.pc + 1, stack := v :: rest }) t → Steps p.tables e below (T.setTop g) t := by
  obtain ⟨cl, A, S, H⟩ := A
  exact X.baloadBytes hx (by rw [eT]; exact A.1) (State.isArrayOf_alike hZ.alike A.2.1) A.2.2 (by rw [S]; exact own_in hi hj hb) (by rw [hi, own_n32 (by omega), H j hj, hv]) hg hs hd
theorem own_ist (X : Stand p l e R s m args below meth c T locs cells slots) (hx : p.tables.exec = Jvm.exec) (hZ : Z.Warmed39 s.vm) (eT : T.heap = h) (A : VA Z h a .int n f) {i x : Int32} {j : Nat} (hi : i = Int32.ofNat j) (hj : j < n) (hb : n ≤ 2147483648) {g : JFrame} (hg : g.method = m) {rest : List Value} (hs : g.stack = .int x :: .int i :: .ref a :: rest) (hd : decode c.code g.pc = .ok (.iastore, 1)) :
    ∃ T' h', Stand p l e R s m args below meth c T' (locs ++ [⟨a, j⟩]) cells slots ∧ T'.heap = h' ∧ Wr h h' a j (.int x) ∧ ∀ t, Steps p.tables e below (T'.setTop { g with pc := g.pc + 1, stack := rest }) t → Steps p.tables e below (T.setTop g) t := by
  obtain ⟨cl, A, S, H⟩ := A
  have q := stI X hx hZ eT A (by rw [S]; exact own_in hi hj hb) hg hs hd
  rw [hi, own_n32 (by omega)] at q
  exact q
theorem own_jst (X : Stand p l e R s m args below meth c T locs cells slots) (hx : p.tables.exec = Jvm.exec) (hZ : Z.Warmed39 s.vm) (eT : T.heap = h) (A : VA Z h a .long n f) {i : Int32} {x : Int64} {j : Nat} (hi : i = Int32.ofNat j) (hj : j < n) (hb : n ≤ 2147483648) {g : JFrame} (hg : g.method = m) {rest : List Value} (hs : g.stack = .long x :: .int i :: .ref a :: rest) (hd : decode c.code g.pc = .ok (.lastore, 1)) :
    ∃ T' h', Stand p l e R s m args below meth c T' (locs ++ [⟨a, j⟩]) cells slots ∧ T'.heap = h' ∧ Wr h h' a j (.long x) ∧ ∀ t, Steps p.tables e below (T'.setTop { g with pc := g.pc + 1, stack := rest }) t → Steps p.tables e below (T.setTop g) t := by
  obtain ⟨cl, A, S, H⟩ := A
  have q := stJ X hx hZ eT A (by rw [S]; exact own_in hi hj hb) hg hs hd
  rw [hi, own_n32 (by omega)] at q
  exact q
theorem own_cst (X : Stand p l e R s m args below meth c T locs cells slots) (hx : p.tables.exec = Jvm.exec) (hZ : Z.Warmed39 s.vm) (eT : T.heap = h) (A : VA Z h a .char n f) {i x : Int32} {j : Nat} (hi : i = Int32.ofNat j) (hj : j < n) (hb : n ≤ 2147483648) {g : JFrame} (hg : g.method = m) {rest : List Value} (hs : g.stack = .int x :: .int i :: .ref a :: rest) (hd : decode c.code g.pc = .ok (.castore, 1)) :
    ∃ T' h', Stand p l e R s m args below meth c T' (locs ++ [⟨a, j⟩]) cells slots ∧ T'.heap = h' ∧ Wr h h' a j (.int (nar .char x)) ∧ ∀ t, Steps p.tables e below (T'.setTop { g with pc := g.pc + 1, stack := rest }) t → Steps p.tables e below (T.setTop g) t := by
  obtain ⟨cl, A, S, H⟩ := A
  have q := stC X hx hZ eT A (by rw [S]; exact own_in hi hj hb) hg hs hd
  rw [hi, own_n32 (by omega)] at q
  exact q
theorem own_bst (X : Stand p l e R s m args below meth c T locs cells slots) (hx : p.tables.exec = Jvm.exec) (hZ : Z.Warmed39 s.vm) (eT : T.heap = h) (A : VA Z h a .byte n f) {i x : Int32} {j : Nat} (hi : i = Int32.ofNat j) (hj : j < n) (hb : n ≤ 2147483648) {g : JFrame} (hg : g.method = m) {rest : List Value} (hs : g.stack = .int x :: .int i :: .ref a :: rest) (hd : decode c.code g.pc = .ok (.bastore, 1)) :
    ∃ T' h', Stand p l e R s m args below meth c T' (locs ++ [⟨a, j⟩]) cells slots ∧ T'.heap = h' ∧ Wr h h' a j (.int (nar .byte x)) ∧ ∀ t, Steps p.tables e below (T'.setTop { g with pc := g.pc + 1, stack := rest }) t → Steps p.tables e below (T.setTop g) t := by
  obtain ⟨cl, A, S, H⟩ := A
  have q := stB X hx hZ eT A (by rw [S]; exact own_in hi hj hb) hg hs hd
  rw [hi, own_n32 (by omega)] at q
  exact q
end Own
def own_t (sv q2 : Int64) : Int64 := (sv + (1 : Int64)) + ((q2 &&& (9223372036854775807 : Int64)) - ((q2 &&& (9223372036854775807 : Int64)) / ((9223372036854775807 : Int64) - sv)) * ((9223372036854775807 : Int64) - sv))
theorem own_gap {sv : Int64} (h1 : 1 ≤ sv.toInt) (h2 : sv.toInt ≤ 9223372036854775806) : ((9223372036854775807 : Int64) - sv).toInt = 9223372036854775807 - sv.toInt := by
  have h := c_lsub 9223372036854775807 sv
  have hr := rng64 ((9223372036854775807 : Int64) - sv)
  have hm : (9223372036854775807 : Int64).toInt = 9223372036854775807 := by decide
  omega
theorem own_nz {sv : Int64} (h1 : 1 ≤ sv.toInt) (h2 : sv.toInt ≤ 9223372036854775806) : (9223372036854775807 : Int64) - sv ≠ 0 := by
  have h := own_gap h1 h2
  have h0 : (0 : Int64).toInt = 0 := by decide
  intro q
  rw [q] at h; omega
theorem own_tc {sv g d : Int64} (h1 : 1 ≤ sv.toInt) (h2 : sv.toInt ≤ 9223372036854775806) (hg : 0 ≤ g.toInt) (hd : d.toInt = 9223372036854775807 - sv.toInt) : sv < (sv + (1 : Int64)) + (g - (g / d) * d) := by
  have hr := (c_lrem g d _ hd).1 hg
  have hb1 := Int.emod_nonneg g.toInt (b := 9223372036854775807 - sv.toInt) (by omega)
  have hb2 := Int.emod_lt_of_pos g.toInt (b := 9223372036854775807 - sv.toInt) (by omega)
  generalize g - (g / d) * d = r at hr ⊢
  generalize g.toInt % (9223372036854775807 - sv.toInt) = y at hr hb1 hb2
  have ha := c_ladd sv 1
  have ho : (1 : Int64).toInt = 1 := by decide
  generalize sv + (1 : Int64) = u at ha ⊢
  have hra := rng64 u
  have ht := c_ladd u r
  generalize u + r = w at ht ⊢
  have hrt := rng64 w
  rw [Int64.lt_iff_toInt_lt]
  omega
theorem own_tb {sv : Int64} (q2 : Int64) (h1 : 1 ≤ sv.toInt) (h2 : sv.toInt ≤ 9223372036854775806) : sv < own_t sv q2 :=
  own_tc h1 h2 (by rw [c_maskL q2 9223372036854775807 63 (by decide) (by decide)]; omega) (own_gap h1 h2)
theorem own_ge {sv : Int64} (h1 : 1 ≤ sv.toInt) : ¬ sv < 1 := by
  have ho : (1 : Int64).toInt = 1 := by decide
  rw [Int64.lt_iff_toInt_lt]; omega
theorem pd_0 : parseMethodDescriptor "()V" = some ⟨[], none⟩ := by decide +kernel
theorem pd_1 : parseMethodDescriptor "(JJ)V" = some ⟨[.long, .long], none⟩ := by decide +kernel
theorem pd_2 : parseMethodDescriptor "(JJ)Lcom/example/hot_coupon/hotcoupon/template/ThresholdRule;" = some ⟨[.long, .long], some (.object "com/example/hot_coupon/hotcoupon/template/ThresholdRule")⟩ := by decide +kernel
theorem pd_3 : parseMethodDescriptor "()J" = some ⟨[], some .long⟩ := by decide +kernel
theorem pd_4 : parseMethodDescriptor "(Ljava/lang/Object;)Z" = some ⟨[(.object "java/lang/Object")], some .boolean⟩ := by decide +kernel
theorem d3_0 : decode prog_13_method_1_code 0 = .ok (.aload_n 0, 1) := by decide +kernel
theorem d3_1 : decode prog_13_method_1_code 1 = .ok (.invokespecial 1, 3) := by decide +kernel
theorem d3_4 : decode prog_13_method_1_code 4 = .ok (.return_, 1) := by decide +kernel
theorem pn_3 : plainName "com/example/hot_coupon/hotcoupon/template/DiscountRule" = true := by first | (simp [plainName, overriddenIn]; done) | decide +kernel
theorem ef_3 (m : MethodId) (x0 : Nat) : entryFrame m #[(.ref x0)] 1 = mkF m 0 #[.val (.ref x0)] [] := by first | (simp [entryFrame, mkF, argsToLocals, Value.category]; done) | rfl
def Q3 (h0 : Heap) (n0 : Nat) (v : Option Value) (h : Heap) (L : List Loc) : Prop := v = none ∧ Fr n0 L ∧ h = h0
set_option maxRecDepth 65536 in
set_option maxHeartbeats 40000000 in
theorem rm3 (l : Launch) (Z : State) (a0 : Array Value) (hw : ∀ d ∈ tables_1, d.before a0 Z = true) (ws : List Jvm.Cond) (a : Nat) (h0 : Heap) (n0 : Nat) :
    Meets l Z (⟨"com/example/hot_coupon/hotcoupon/template/DiscountRule", "<init>", "()V"⟩ : MethodName) prog_13_method_1_code 1 none ws ({ frames := 1, cells := 0, slots := 0, locals := 12 } : Room) #[(.ref a)] h0 0 0 (Q3 h0 n0) := by
  refine own_meets (plainFor_of_name pn_3) ?_
  intro p e s m below meth c s₁ hx hZ hby hml hown hnm hret hlk X0 e0
  have hown : s.vm.findClass "com/example/hot_coupon/hotcoupon/template/DiscountRule" = some m.cls := hown
  have hnm : meth.name = "<init>" := hnm
  refine own_finV (l := l) (R := ({ frames := 1, cells := 0, slots := 0, locals := 12 } : Room)) (m := m) (args := #[(.ref a)]) (c := c) hx hret hlk ?_
  refine own_cast (ef_3 m a) ?_
  refine own_st (g1 := (mkF m 1 #[.val (.ref a)] [(.ref a)])) (fun t k => XS.aloadN X0.here hx rfl (hb hby d3_0) rfl rfl k) ?_
  obtain ⟨T1, X1, e1, st1⟩ := initO X0 hx hZ hown (hw _ (List.mem_of_getElem? (i := 15) rfl)) (hw _ (List.mem_of_getElem? (i := 16) rfl)) (hw _ (List.mem_of_getElem? (i := 17) rfl)) e0 (g := (mkF m 1 #[.val (.ref a)] [(.ref a)])) rfl (by rw [hml]; rfl) rfl (hb hby d3_1) (by decide) (W := 0) (by show 2 * 0 + _ ≤ _; exact Nat.le_of_eq rfl) (by decide)
  refine own_st (g1 := (mkF m 4 #[.val (.ref a)] [])) (st1) ?_
  exact own_here X1 ⟨4, _, rfl, (hb hby d3_4), (by decide), (by decide), (by rw [e1]; exact ⟨rfl, Fr.nil n0, rfl⟩)⟩
theorem d2_0 : decode prog_20_method_2_code 0 = .ok (.aload_n 0, 1) := by decide +kernel
theorem d2_1 : decode prog_20_method_2_code 1 = .ok (.invokespecial 19, 3) := by decide +kernel
theorem d2_4 : decode prog_20_method_2_code 4 = .ok (.aload_n 0, 1) := by decide +kernel
theorem d2_5 : decode prog_20_method_2_code 5 = .ok (.lload_n 1, 1) := by decide +kernel
theorem d2_6 : decode prog_20_method_2_code 6 = .ok (.putfield 24, 3) := by decide +kernel
theorem d2_9 : decode prog_20_method_2_code 9 = .ok (.aload_n 0, 1) := by decide +kernel
theorem d2_10 : decode prog_20_method_2_code 10 = .ok (.lload_n 3, 1) := by decide +kernel
theorem d2_11 : decode prog_20_method_2_code 11 = .ok (.putfield 28, 3) := by decide +kernel
theorem d2_14 : decode prog_20_method_2_code 14 = .ok (.return_, 1) := by decide +kernel
theorem pn_2 : plainName "com/example/hot_coupon/hotcoupon/template/ThresholdRule" = true := by first | (simp [plainName, overriddenIn]; done) | decide +kernel
theorem ef_2 (m : MethodId) (x0 : Nat) (x1 : Int64) (x2 : Int64) : entryFrame m #[(.ref x0), (.long x1), (.long x2)] 5 = mkF m 0 #[.val (.ref x0), .val (.long x1), .second, .val (.long x2), .second] [] := by first | (simp [entryFrame, mkF, argsToLocals, Value.category]; done) | rfl
def Q2 (Z : State) (o : Nat) (tv sv : Int64) (h0 : Heap) (n0 : Nat) (v : Option Value) (h : Heap) (L : List Loc) : Prop := v = none ∧ Fr n0 L ∧ Keep h0 h [o] ∧ Exa Z h o "com/example/hot_coupon/hotcoupon/template/ThresholdRule" ∧ Fld Z h o "com/example/hot_coupon/hotcoupon/template/ThresholdRule" "threshold" "J" (.long tv) ∧ Fld Z h o "com/example/hot_coupon/hotcoupon/template/ThresholdRule" "saving" "J" (.long sv)
set_option maxRecDepth 65536 in
set_option maxHeartbeats 40000000 in
theorem rm2 (l : Launch) (Z : State) (a0 : Array Value) (hw : ∀ d ∈ tables_1, d.before a0 Z = true) (ws : List Jvm.Cond) (o : Nat) (tv sv : Int64) (h0 : Heap) (n0 : Nat) (E : Exa Z h0 o "com/example/hot_coupon/hotcoupon/template/ThresholdRule") (F1 : Fld Z h0 o "com/example/hot_coupon/hotcoupon/template/ThresholdRule" "threshold" "J" (.long (0 : Int64))) (F2 : Fld Z h0 o "com/example/hot_coupon/hotcoupon/template/ThresholdRule" "saving" "J" (.long (0 : Int64))) (go : n0 ≤ o) :
    Meets l Z (⟨"com/example/hot_coupon/hotcoupon/template/ThresholdRule", "<init>", "(JJ)V"⟩ : MethodName) prog_20_method_2_code 5 none ws ({ frames := 2, cells := 0, slots := 0, locals := 24 } : Room) #[(.ref o), (.long tv), (.long sv)] h0 0 0 (Q2 Z o tv sv h0 n0) := by
  refine own_meets (plainFor_of_name pn_2) ?_
  intro p e s m below meth c s₁ hx hZ hby hml hown hnm hret hlk X0 e0
  have hown : s.vm.findClass "com/example/hot_coupon/hotcoupon/template/ThresholdRule" = some m.cls := hown
  have hnm : meth.name = "<init>" := hnm
  refine own_finV (l := l) (R := ({ frames := 2, cells := 0, slots := 0, locals := 24 } : Room)) (m := m) (args := #[(.ref o), (.long tv), (.long sv)]) (c := c) hx hret hlk ?_
  refine own_cast (ef_2 m o tv sv) ?_
  refine own_st (g1 := (mkF m 1 #[.val (.ref o), .val (.long tv), .second, .val (.long sv), .second] [(.ref o)])) (fun t k => XS.aloadN X0.here hx rfl (hb hby d2_0) rfl rfl k) ?_
  obtain ⟨_, _, ⟨T2, L2, k2, n2⟩, -, X2, ⟨Lc2, hQ2, l2, y2, z2⟩, st2⟩ := X0.specialBack hx (y := (⟨"com/example/hot_coupon/hotcoupon/template/DiscountRule", "<init>", "()V"⟩ : MethodName)) rfl hown (mvT hZ (hw _ (List.mem_of_getElem? (i := 10) rfl))) (mvT hZ (hw _ (List.mem_of_getElem? (i := 11) rfl))) (mvT hZ (hw _ (List.mem_of_getElem? (i := 14) rfl))) (by decide) (backOf (W := 0) (rm3 l Z a0 hw [] o h0 n0) hZ (hw _ (List.mem_of_getElem? (i := 14) rfl)) (hw _ (List.mem_of_getElem? (i := 13) rfl)) (by decide) (by decide)) (g := (mkF m 1 #[.val (.ref o), .val (.long tv), .second, .val (.long sv), .second] [(.ref o)])) rfl (by rw [hml]; rfl) (Steps.refl _) (a := o) (argsL := []) (rest := []) (lenOf pd_0 rfl) rfl (by show 2 * 0 + _ ≤ _; exact Nat.le_of_eq rfl) (hb hby d2_1) (fun _ _ => ⟨rfl, e0, (by decide : 0 + 0 ≤ _), (by decide : 0 + 0 ≤ _)⟩)
  dsimp only [Pt.U, Pt.locs, Pt.cells, Pt.slots] at X2 l2 y2 z2 st2 hQ2
  subst l2 y2 z2
  obtain ⟨rfl, N2, hh2⟩ := hQ2
  refine own_st (g1 := (mkF m 4 #[.val (.ref o), .val (.long tv), .second, .val (.long sv), .second] [])) (fun t k => st2.trans k) ?_
  have eh : T2.heap = h0 := hh2
  refine own_st (g1 := (mkF m 5 #[.val (.ref o), .val (.long tv), .second, .val (.long sv), .second] [(.ref o)])) (fun t k => XS.aloadN X2.here hx rfl (hb hby d2_4) rfl rfl k) ?_
  refine own_st (g1 := (mkF m 6 #[.val (.ref o), .val (.long tv), .second, .val (.long sv), .second] [(.long tv), (.ref o)])) (fun t k => XS.lloadN X2.here hx rfl (hb hby d2_5) rfl k) ?_
  obtain ⟨T3, h3, X3, e3, W3, st3⟩ := putF X2 hx hZ hown (host := "") (Or.inl (hw _ (List.mem_of_getElem? (i := 18) rfl))) Via.refl eh F1 E (Or.inr ⟨(hw _ (List.mem_of_getElem? (i := 19) rfl)), rfl, hnm⟩) (hw _ (List.mem_of_getElem? (i := 6) rfl)) (ty := .long) (by decide) rfl rfl (g := (mkF m 6 #[.val (.ref o), .val (.long tv), .second, .val (.long sv), .second] [(.long tv), (.ref o)])) rfl rfl (hb hby d2_6)
  refine own_st (g1 := (mkF m 9 #[.val (.ref o), .val (.long tv), .second, .val (.long sv), .second] [])) (st3) ?_
  have F1a := F1.same W3
  have F2a := F2.other W3 (Or.inr (slot_ne (Or.inr (hw _ (List.mem_of_getElem? (i := 21) rfl))) (Or.inr (hw _ (List.mem_of_getElem? (i := 19) rfl))) (by decide) (t := .long) (t' := .long) (by decide) (by decide)))
  have Ea := E.wr W3
  have Na := Fr.snoc X3 (Fr.app (Fr.nil n0) N2) go
  have Ka : Keep h0 h3 [o] := (Keep.refl h0 [o]).wr W3 (Or.inl (List.mem_of_getElem? (i := 0) rfl))
  refine own_st (g1 := (mkF m 10 #[.val (.ref o), .val (.long tv), .second, .val (.long sv), .second] [(.ref o)])) (fun t k => XS.aloadN X3.here hx rfl (hb hby d2_9) rfl rfl k) ?_
  refine own_st (g1 := (mkF m 11 #[.val (.ref o), .val (.long tv), .second, .val (.long sv), .second] [(.long sv), (.ref o)])) (fun t k => XS.lloadN X3.here hx rfl (hb hby d2_10) rfl k) ?_
  obtain ⟨T4, h4, X4, e4, W4, st4⟩ := putF X3 hx hZ hown (host := "") (Or.inl (hw _ (List.mem_of_getElem? (i := 20) rfl))) Via.refl e3 F2a Ea (Or.inr ⟨(hw _ (List.mem_of_getElem? (i := 21) rfl)), rfl, hnm⟩) (hw _ (List.mem_of_getElem? (i := 6) rfl)) (ty := .long) (by decide) rfl rfl (g := (mkF m 11 #[.val (.ref o), .val (.long tv), .second, .val (.long sv), .second] [(.long sv), (.ref o)])) rfl rfl (hb hby d2_11)
  refine own_st (g1 := (mkF m 14 #[.val (.ref o), .val (.long tv), .second, .val (.long sv), .second] [])) (st4) ?_
  have F2b := F2a.same W4
  have F1b := F1a.other W4 (Or.inr (slot_ne (Or.inr (hw _ (List.mem_of_getElem? (i := 19) rfl))) (Or.inr (hw _ (List.mem_of_getElem? (i := 21) rfl))) (by decide) (t := .long) (t' := .long) (by decide) (by decide)))
  have Eb := Ea.wr W4
  have Nb := Fr.snoc X4 Na go
  have Kb : Keep h0 h4 [o] := Ka.wr W4 (Or.inl (List.mem_of_getElem? (i := 0) rfl))
  exact own_here X4 ⟨14, _, rfl, (hb hby d2_14), (by decide), (by decide), (by rw [e4]; exact ⟨rfl, Nb, Kb, Eb, F1b, F2b⟩)⟩
theorem d1_0 : decode prog_20_method_1_code 0 = .ok (.lload_n 2, 1) := by decide +kernel
theorem d1_1 : decode prog_20_method_1_code 1 = .ok (.lconst 1, 1) := by decide +kernel
theorem d1_2 : decode prog_20_method_1_code 2 = .ok (.lcmp, 1) := by decide +kernel
theorem d1_3 : decode prog_20_method_1_code 3 = .ok (.ifCond .ge 17, 3) := by decide +kernel
theorem d1_20 : decode prog_20_method_1_code 20 = .ok (.lload_n 2, 1) := by decide +kernel
theorem d1_21 : decode prog_20_method_1_code 21 = .ok (.lload_n 0, 1) := by decide +kernel
theorem d1_22 : decode prog_20_method_1_code 22 = .ok (.lcmp, 1) := by decide +kernel
theorem d1_23 : decode prog_20_method_1_code 23 = .ok (.ifCond .lt 18, 3) := by decide +kernel
theorem d1_41 : decode prog_20_method_1_code 41 = .ok (.new 14, 3) := by decide +kernel
theorem d1_44 : decode prog_20_method_1_code 44 = .ok (.dup, 1) := by decide +kernel
theorem d1_45 : decode prog_20_method_1_code 45 = .ok (.lload_n 0, 1) := by decide +kernel
theorem d1_46 : decode prog_20_method_1_code 46 = .ok (.lload_n 2, 1) := by decide +kernel
theorem d1_47 : decode prog_20_method_1_code 47 = .ok (.invokespecial 16, 3) := by decide +kernel
theorem d1_50 : decode prog_20_method_1_code 50 = .ok (.areturn, 1) := by decide +kernel
theorem pn_1 : plainName "com/example/hot_coupon/hotcoupon/template/ThresholdRule" = true := by first | (simp [plainName, overriddenIn]; done) | decide +kernel
theorem ef_1 (m : MethodId) (x0 : Int64) (x1 : Int64) : entryFrame m #[(.long x0), (.long x1)] 4 = mkF m 0 #[.val (.long x0), .second, .val (.long x1), .second] [] := by first | (simp [entryFrame, mkF, argsToLocals, Value.category]; done) | rfl
def Q1 (Z : State) (tv sv : Int64) (h0 : Heap) (n0 : Nat) (v : Option Value) (h : Heap) (L : List Loc) : Prop := ∃ b : Nat, v = some (.ref b) ∧ Fr n0 L ∧ h0.size ≤ b ∧ Keep h0 h [] ∧ Exa Z h b "com/example/hot_coupon/hotcoupon/template/ThresholdRule" ∧ Fld Z h b "com/example/hot_coupon/hotcoupon/template/ThresholdRule" "threshold" "J" (.long tv) ∧ Fld Z h b "com/example/hot_coupon/hotcoupon/template/ThresholdRule" "saving" "J" (.long sv)
set_option maxRecDepth 65536 in
set_option maxHeartbeats 40000000 in
theorem rm1 (l : Launch) (Z : State) (a0 : Array Value) (hw : ∀ d ∈ tables_1, d.before a0 Z = true) (ws : List Jvm.Cond) (tv sv : Int64) (h0 : Heap) (n0 : Nat) (Z0 : n0 ≤ h0.size) (h1 : ¬ sv < (1 : Int64)) (h2 : sv < tv) :
    Meets l Z (⟨"com/example/hot_coupon/hotcoupon/template/ThresholdRule", "of", "(JJ)Lcom/example/hot_coupon/hotcoupon/template/ThresholdRule;"⟩ : MethodName) prog_20_method_1_code 4 (some (.object "com/example/hot_coupon/hotcoupon/template/ThresholdRule")) ws ({ frames := 3, cells := 1, slots := 2, locals := 41 } : Room) #[(.long tv), (.long sv)] h0 1 2 (Q1 Z tv sv h0 n0) := by
  refine own_meets (plainFor_of_name pn_1) ?_
  intro p e s m below meth c s₁ hx hZ hby hml hown hnm hret hlk X0 e0
  have hown : s.vm.findClass "com/example/hot_coupon/hotcoupon/template/ThresholdRule" = some m.cls := hown
  have hnm : meth.name = "of" := hnm
  refine own_finA (l := l) (R := ({ frames := 3, cells := 1, slots := 2, locals := 41 } : Room)) (m := m) (args := #[(.long tv), (.long sv)]) (c := c) rfl hx hret hlk ?_
  refine own_cast (ef_1 m tv sv) ?_
  refine own_st (g1 := (mkF m 1 #[.val (.long tv), .second, .val (.long sv), .second] [(.long sv)])) (fun t k => XS.lloadN X0.here hx rfl (hb hby d1_0) rfl k) ?_
  refine own_st (g1 := (mkF m 2 #[.val (.long tv), .second, .val (.long sv), .second] [(.long (1 : Int64)), (.long sv)])) (fun t k => XS.lconst X0.here hx rfl (hb hby d1_1) k) ?_
  refine own_st (g1 := (mkF m 3 #[.val (.long tv), .second, .val (.long sv), .second] [(.int (lcmpW sv (1 : Int64)))])) (fun t k => XS.lcmp X0.here hx rfl (hb hby d1_2) rfl k) ?_
  refine own_st (g1 := (mkF m 20 #[.val (.long tv), .second, .val (.long sv), .second] [])) (fun t k => XS.ifYes X0.here hx rfl (pc0 := 3) (pc' := 20) rfl (hb hby d1_3) rfl ((if0 _ _).trans (flt (fun q => h1 ((lw_lt _ _).mp q))).2.1) (by decide) (by decide) k) ?_
  refine own_st (g1 := (mkF m 21 #[.val (.long tv), .second, .val (.long sv), .second] [(.long sv)])) (fun t k => XS.lloadN X0.here hx rfl (hb hby d1_20) rfl k) ?_
  refine own_st (g1 := (mkF m 22 #[.val (.long tv), .second, .val (.long sv), .second] [(.long tv), (.long sv)])) (fun t k => XS.lloadN X0.here hx rfl (hb hby d1_21) rfl k) ?_
  refine own_st (g1 := (mkF m 23 #[.val (.long tv), .second, .val (.long sv), .second] [(.int (lcmpW sv tv))])) (fun t k => XS.lcmp X0.here hx rfl (hb hby d1_22) rfl k) ?_
  refine own_st (g1 := (mkF m 41 #[.val (.long tv), .second, .val (.long sv), .second] [])) (fun t k => XS.ifYes X0.here hx rfl (pc0 := 23) (pc' := 41) rfl (hb hby d1_23) rfl ((if0 _ _).trans (tlt ((lw_lt _ _).mpr h2)).1) (by decide) (by decide) k) ?_
  obtain ⟨T5, h5, X5, e5, E5, A5, D5, -, st5⟩ := newO X0 hx hZ hown (hw _ (List.mem_of_getElem? (i := 5) rfl)) (hw _ (List.mem_of_getElem? (i := 6) rfl)) (hw _ (List.mem_of_getElem? (i := 3) rfl)) e0 (g := (mkF m 41 #[.val (.long tv), .second, .val (.long sv), .second] [])) rfl (hb hby d1_41) (by decide) (by decide)
  obtain ⟨b5, g5⟩ : ∃ z, z = h0.size := ⟨_, rfl⟩
  rw [← g5] at A5 D5 st5
  refine own_st (g1 := (mkF m 44 #[.val (.long tv), .second, .val (.long sv), .second] [(.ref b5)])) (st5) ?_
  have F1 : Fld Z h5 b5 "com/example/hot_coupon/hotcoupon/template/ThresholdRule" "threshold" "J" (.long (0 : Int64)) := D5 (Or.inr (hw _ (List.mem_of_getElem? (i := 19) rfl))) (ty := .long) (by decide)
  have F2 : Fld Z h5 b5 "com/example/hot_coupon/hotcoupon/template/ThresholdRule" "saving" "J" (.long (0 : Int64)) := D5 (Or.inr (hw _ (List.mem_of_getElem? (i := 21) rfl))) (ty := .long) (by decide)
  have ga : n0 ≤ b5 := by omega
  refine own_st (g1 := (mkF m 45 #[.val (.long tv), .second, .val (.long sv), .second] [(.ref b5), (.ref b5)])) (fun t k => XS.dup X5.here hx rfl (hb hby d1_44) rfl rfl k) ?_
  refine own_st (g1 := (mkF m 46 #[.val (.long tv), .second, .val (.long sv), .second] [(.long tv), (.ref b5), (.ref b5)])) (fun t k => XS.lloadN X5.here hx rfl (hb hby d1_45) rfl k) ?_
  refine own_st (g1 := (mkF m 47 #[.val (.long tv), .second, .val (.long sv), .second] [(.long sv), (.long tv), (.ref b5), (.ref b5)])) (fun t k => XS.lloadN X5.here hx rfl (hb hby d1_46) rfl k) ?_
  obtain ⟨_, _, ⟨T6, L6, k6, n6⟩, -, X6, ⟨Lc6, hQ6, l6, y6, z6⟩, st6⟩ := X5.specialBack hx (y := (⟨"com/example/hot_coupon/hotcoupon/template/ThresholdRule", "<init>", "(JJ)V"⟩ : MethodName)) rfl hown (mvT hZ (hw _ (List.mem_of_getElem? (i := 7) rfl))) (mvT hZ (hw _ (List.mem_of_getElem? (i := 8) rfl))) (mvT hZ (hw _ (List.mem_of_getElem? (i := 9) rfl))) (by decide) (backOf (W := 1) (rm2 l Z a0 hw [] b5 tv sv h5 n0 A5 F1 F2 ga) hZ (hw _ (List.mem_of_getElem? (i := 9) rfl)) (hw _ (List.mem_of_getElem? (i := 3) rfl)) (by decide) (by decide)) (g := (mkF m 47 #[.val (.long tv), .second, .val (.long sv), .second] [(.long sv), (.long tv), (.ref b5), (.ref b5)])) rfl (by rw [hml]; rfl) (Steps.refl _) (a := b5) (argsL := [(.long tv), (.long sv)]) (rest := [(.ref b5)]) (lenOf pd_1 rfl) rfl (by show 2 * 0 + _ ≤ _; exact Nat.le_of_eq rfl) (hb hby d1_47) (fun _ _ => ⟨rfl, e5, (by decide : 0 + 1 + 0 ≤ _), (by decide : 0 + 2 + 0 ≤ _)⟩)
  dsimp only [Pt.U, Pt.locs, Pt.cells, Pt.slots] at X6 l6 y6 z6 st6 hQ6
  subst l6 y6 z6
  obtain ⟨rfl, N6, K6, E6, FT6, FS6⟩ := hQ6
  refine own_st (g1 := (mkF m 50 #[.val (.long tv), .second, .val (.long sv), .second] [(.ref b5)])) (fun t k => st6.trans k) ?_
  have KK : Keep h0 T6.heap [] := ((Keep.refl h0 []).ext E5).trans K6 (allS (Or.inr (by omega)) all0)
  exact own_here X6 ⟨50, _, _, rfl, (hb hby d1_50), (by decide), (by decide), ⟨b5, rfl, Fr.app (Fr.nil n0) N6, (by omega), KK, E6, FT6, FS6⟩⟩
theorem d5_0 : decode prog_20_method_3_code 0 = .ok (.aload_n 0, 1) := by decide +kernel
theorem d5_1 : decode prog_20_method_3_code 1 = .ok (.getfield 24, 3) := by decide +kernel
theorem d5_4 : decode prog_20_method_3_code 4 = .ok (.lreturn, 1) := by decide +kernel
theorem pn_5 : plainName "com/example/hot_coupon/hotcoupon/template/ThresholdRule" = true := by first | (simp [plainName, overriddenIn]; done) | decide +kernel
theorem ef_5 (m : MethodId) (x0 : Nat) : entryFrame m #[(.ref x0)] 1 = mkF m 0 #[.val (.ref x0)] [] := by first | (simp [entryFrame, mkF, argsToLocals, Value.category]; done) | rfl
def Q5 (z : Int64) (h0 : Heap) (n0 : Nat) (v : Option Value) (h : Heap) (L : List Loc) : Prop := v = some (.long z) ∧ Fr n0 L ∧ h = h0
set_option maxRecDepth 65536 in
set_option maxHeartbeats 40000000 in
theorem rm5 (l : Launch) (Z : State) (a0 : Array Value) (hw : ∀ d ∈ tables_1, d.before a0 Z = true) (ws : List Jvm.Cond) (o : Nat) (z : Int64) (h0 : Heap) (n0 : Nat) (F : Fld Z h0 o "com/example/hot_coupon/hotcoupon/template/ThresholdRule" "threshold" "J" (.long z)) :
    Meets l Z (⟨"com/example/hot_coupon/hotcoupon/template/ThresholdRule", "getThreshold", "()J"⟩ : MethodName) prog_20_method_3_code 1 (some .long) ws ({ frames := 0, cells := 0, slots := 0, locals := 0 } : Room) #[(.ref o)] h0 0 0 (Q5 z h0 n0) := by
  refine own_meets (plainFor_of_name pn_5) ?_
  intro p e s m below meth c s₁ hx hZ hby hml hown hnm hret hlk X0 e0
  have hown : s.vm.findClass "com/example/hot_coupon/hotcoupon/template/ThresholdRule" = some m.cls := hown
  have hnm : meth.name = "getThreshold" := hnm
  refine own_finJ (l := l) (R := ({ frames := 0, cells := 0, slots := 0, locals := 0 } : Room)) (m := m) (args := #[(.ref o)]) (c := c) hx hret hlk ?_
  refine own_cast (ef_5 m o) ?_
  refine own_st (g1 := (mkF m 1 #[.val (.ref o)] [(.ref o)])) (fun t k => XS.aloadN X0.here hx rfl (hb hby d5_0) rfl rfl k) ?_
  obtain ⟨T7, X7, e7, st7⟩ := getF X0 hx hZ hown (host := "") (Or.inl (hw _ (List.mem_of_getElem? (i := 18) rfl))) Via.refl e0 F (g := (mkF m 1 #[.val (.ref o)] [(.ref o)])) rfl rfl (hb hby d5_1)
  refine own_st (g1 := (mkF m 4 #[.val (.ref o)] [(.long z)])) (st7) ?_
  exact own_here X7 ⟨4, _, _, rfl, (hb hby d5_4), (by decide), (by decide), (by rw [e7]; exact ⟨rfl, Fr.nil n0, rfl⟩)⟩
theorem d6_0 : decode prog_20_method_4_code 0 = .ok (.aload_n 0, 1) := by decide +kernel
theorem d6_1 : decode prog_20_method_4_code 1 = .ok (.getfield 28, 3) := by decide +kernel
theorem d6_4 : decode prog_20_method_4_code 4 = .ok (.lreturn, 1) := by decide +kernel
theorem pn_6 : plainName "com/example/hot_coupon/hotcoupon/template/ThresholdRule" = true := by first | (simp [plainName, overriddenIn]; done) | decide +kernel
theorem ef_6 (m : MethodId) (x0 : Nat) : entryFrame m #[(.ref x0)] 1 = mkF m 0 #[.val (.ref x0)] [] := by first | (simp [entryFrame, mkF, argsToLocals, Value.category]; done) | rfl
def Q6 (z : Int64) (h0 : Heap) (n0 : Nat) (v : Option Value) (h : Heap) (L : List Loc) : Prop := v = some (.long z) ∧ Fr n0 L ∧ h = h0
set_option maxRecDepth 65536 in
set_option maxHeartbeats 40000000 in
theorem rm6 (l : Launch) (Z : State) (a0 : Array Value) (hw : ∀ d ∈ tables_1, d.before a0 Z = true) (ws : List Jvm.Cond) (o : Nat) (z : Int64) (h0 : Heap) (n0 : Nat) (F : Fld Z h0 o "com/example/hot_coupon/hotcoupon/template/ThresholdRule" "saving" "J" (.long z)) :
    Meets l Z (⟨"com/example/hot_coupon/hotcoupon/template/ThresholdRule", "getSaving", "()J"⟩ : MethodName) prog_20_method_4_code 1 (some .long) ws ({ frames := 0, cells := 0, slots := 0, locals := 0 } : Room) #[(.ref o)] h0 0 0 (Q6 z h0 n0) := by
  refine own_meets (plainFor_of_name pn_6) ?_
  intro p e s m below meth c s₁ hx hZ hby hml hown hnm hret hlk X0 e0
  have hown : s.vm.findClass "com/example/hot_coupon/hotcoupon/template/ThresholdRule" = some m.cls := hown
  have hnm : meth.name = "getSaving" := hnm
  refine own_finJ (l := l) (R := ({ frames := 0, cells := 0, slots := 0, locals := 0 } : Room)) (m := m) (args := #[(.ref o)]) (c := c) hx hret hlk ?_
  refine own_cast (ef_6 m o) ?_
  refine own_st (g1 := (mkF m 1 #[.val (.ref o)] [(.ref o)])) (fun t k => XS.aloadN X0.here hx rfl (hb hby d6_0) rfl rfl k) ?_
  obtain ⟨T8, X8, e8, st8⟩ := getF X0 hx hZ hown (host := "") (Or.inl (hw _ (List.mem_of_getElem? (i := 20) rfl))) Via.refl e0 F (g := (mkF m 1 #[.val (.ref o)] [(.ref o)])) rfl rfl (hb hby d6_1)
  refine own_st (g1 := (mkF m 4 #[.val (.ref o)] [(.long z)])) (st8) ?_
  exact own_here X8 ⟨4, _, _, rfl, (hb hby d6_4), (by decide), (by decide), (by rw [e8]; exact ⟨rfl, Fr.nil n0, rfl⟩)⟩
theorem d7_0 : decode prog_20_method_5_code 0 = .ok (.aload_n 1, 1) := by decide +kernel
theorem d7_1 : decode prog_20_method_5_code 1 = .ok (.aload_n 0, 1) := by decide +kernel
theorem d7_2 : decode prog_20_method_5_code 2 = .ok (.if_acmp .eq 39, 3) := by decide +kernel
theorem d7_5 : decode prog_20_method_5_code 5 = .ok (.aload_n 1, 1) := by decide +kernel
theorem d7_6 : decode prog_20_method_5_code 6 = .ok (.instanceof 14, 3) := by decide +kernel
theorem d7_9 : decode prog_20_method_5_code 9 = .ok (.ifCond .eq 36, 3) := by decide +kernel
theorem d7_12 : decode prog_20_method_5_code 12 = .ok (.aload_n 1, 1) := by decide +kernel
theorem d7_13 : decode prog_20_method_5_code 13 = .ok (.checkcast 14, 3) := by decide +kernel
theorem d7_16 : decode prog_20_method_5_code 16 = .ok (.astore_n 2, 1) := by decide +kernel
theorem d7_17 : decode prog_20_method_5_code 17 = .ok (.aload_n 0, 1) := by decide +kernel
theorem d7_18 : decode prog_20_method_5_code 18 = .ok (.getfield 24, 3) := by decide +kernel
theorem d7_21 : decode prog_20_method_5_code 21 = .ok (.aload_n 2, 1) := by decide +kernel
theorem d7_22 : decode prog_20_method_5_code 22 = .ok (.getfield 24, 3) := by decide +kernel
theorem d7_25 : decode prog_20_method_5_code 25 = .ok (.lcmp, 1) := by decide +kernel
theorem d7_26 : decode prog_20_method_5_code 26 = .ok (.ifCond .ne 19, 3) := by decide +kernel
theorem d7_29 : decode prog_20_method_5_code 29 = .ok (.aload_n 0, 1) := by decide +kernel
theorem d7_30 : decode prog_20_method_5_code 30 = .ok (.getfield 28, 3) := by decide +kernel
theorem d7_33 : decode prog_20_method_5_code 33 = .ok (.aload_n 2, 1) := by decide +kernel
theorem d7_34 : decode prog_20_method_5_code 34 = .ok (.getfield 28, 3) := by decide +kernel
theorem d7_37 : decode prog_20_method_5_code 37 = .ok (.lcmp, 1) := by decide +kernel
theorem d7_38 : decode prog_20_method_5_code 38 = .ok (.ifCond .ne 7, 3) := by decide +kernel
theorem d7_41 : decode prog_20_method_5_code 41 = .ok (.iconst 1, 1) := by decide +kernel
theorem d7_42 : decode prog_20_method_5_code 42 = .ok (.goto 4, 3) := by decide +kernel
theorem d7_45 : decode prog_20_method_5_code 45 = .ok (.iconst 0, 1) := by decide +kernel
theorem d7_46 : decode prog_20_method_5_code 46 = .ok (.ireturn, 1) := by decide +kernel
theorem pn_7 : plainName "com/example/hot_coupon/hotcoupon/template/ThresholdRule" = true := by first | (simp [plainName, overriddenIn]; done) | decide +kernel
theorem ef_7 (m : MethodId) (x0 : Nat) (x1 : Nat) : entryFrame m #[(.ref x0), (.ref x1)] 3 = mkF m 0 #[.val (.ref x0), .val (.ref x1), .unset] [] := by first | (simp [entryFrame, mkF, argsToLocals, Value.category]; done) | rfl
def Q7 (h0 : Heap) (n0 : Nat) (v : Option Value) (h : Heap) (L : List Loc) : Prop := v = some (.int (1 : Int32)) ∧ Fr n0 L ∧ h = h0
set_option maxRecDepth 65536 in
set_option maxHeartbeats 40000000 in
theorem rm7 (l : Launch) (Z : State) (a0 : Array Value) (hw : ∀ d ∈ tables_1, d.before a0 Z = true) (ws : List Jvm.Cond) (o ob : Nat) (tv sv : Int64) (h0 : Heap) (n0 : Nat) (hne : ¬ ob = o) (E : Exa Z h0 ob "com/example/hot_coupon/hotcoupon/template/ThresholdRule") (F1 : Fld Z h0 o "com/example/hot_coupon/hotcoupon/template/ThresholdRule" "threshold" "J" (.long tv)) (F2 : Fld Z h0 o "com/example/hot_coupon/hotcoupon/template/ThresholdRule" "saving" "J" (.long sv)) (G1 : Fld Z h0 ob "com/example/hot_coupon/hotcoupon/template/ThresholdRule" "threshold" "J" (.long tv)) (G2 : Fld Z h0 ob "com/example/hot_coupon/hotcoupon/template/ThresholdRule" "saving" "J" (.long sv)) :
    Meets l Z (⟨"com/example/hot_coupon/hotcoupon/template/ThresholdRule", "equals", "(Ljava/lang/Object;)Z"⟩ : MethodName) prog_20_method_5_code 3 (some .boolean) ws ({ frames := 0, cells := 0, slots := 0, locals := 0 } : Room) #[(.ref o), (.ref ob)] h0 0 0 (Q7 h0 n0) := by
  refine own_meets (plainFor_of_name pn_7) ?_
  intro p e s m below meth c s₁ hx hZ hby hml hown hnm hret hlk X0 e0
  have hown : s.vm.findClass "com/example/hot_coupon/hotcoupon/template/ThresholdRule" = some m.cls := hown
  have hnm : meth.name = "equals" := hnm
  refine own_finN (l := l) (R := ({ frames := 0, cells := 0, slots := 0, locals := 0 } : Room)) (m := m) (args := #[(.ref o), (.ref ob)]) (c := c) (by simp) hx hret hlk ?_
  refine own_cast (ef_7 m o ob) ?_
  refine own_st (g1 := (mkF m 1 #[.val (.ref o), .val (.ref ob), .unset] [(.ref ob)])) (fun t k => XS.aloadN X0.here hx rfl (hb hby d7_0) rfl rfl k) ?_
  refine own_st (g1 := (mkF m 2 #[.val (.ref o), .val (.ref ob), .unset] [(.ref o), (.ref ob)])) (fun t k => XS.aloadN X0.here hx rfl (hb hby d7_1) rfl rfl k) ?_
  refine own_st (g1 := (mkF m 5 #[.val (.ref o), .val (.ref ob), .unset] [])) (fun t k => Jvm.RoadKit.acmp (g := (mkF m 2 #[.val (.ref o), .val (.ref ob), .unset] [(.ref o), (.ref ob)])) X0 hx rfl rfl rfl (pc0 := 2) (pc' := 5) (same := false) rfl (hb hby d7_2) rfl (decide_eq_false fun q => hne (Value.ref.inj q)) (by decide) (by decide) k) ?_
  refine own_st (g1 := (mkF m 6 #[.val (.ref o), .val (.ref ob), .unset] [(.ref ob)])) (fun t k => XS.aloadN X0.here hx rfl (hb hby d7_5) rfl rfl k) ?_
  obtain ⟨T9, X9, e9, st9⟩ := instY X0 hx hZ hown (hw _ (List.mem_of_getElem? (i := 5) rfl)) e0 (Ins.self E) (g := (mkF m 6 #[.val (.ref o), .val (.ref ob), .unset] [(.ref ob)])) rfl rfl (hb hby d7_6)
  refine own_st (g1 := (mkF m 9 #[.val (.ref o), .val (.ref ob), .unset] [(.int (1 : Int32))])) (st9) ?_
  refine own_st (g1 := (mkF m 12 #[.val (.ref o), .val (.ref ob), .unset] [])) (fun t k => XS.ifNo X9.here hx rfl (hb hby d7_9) rfl ((if0 _ _).trans (feq (by decide)).1) k) ?_
  refine own_st (g1 := (mkF m 13 #[.val (.ref o), .val (.ref ob), .unset] [(.ref ob)])) (fun t k => XS.aloadN X9.here hx rfl (hb hby d7_12) rfl rfl k) ?_
  obtain ⟨T10, X10, e10, st10⟩ := castY X9 hx hZ hown (hw _ (List.mem_of_getElem? (i := 5) rfl)) e9 (Ins.self E) (g := (mkF m 13 #[.val (.ref o), .val (.ref ob), .unset] [(.ref ob)])) rfl rfl (hb hby d7_13)
  refine own_st (g1 := (mkF m 16 #[.val (.ref o), .val (.ref ob), .unset] [(.ref ob)])) (st10) ?_
  refine own_st (g1 := (mkF m 17 #[.val (.ref o), .val (.ref ob), .val (.ref ob)] [])) (fun t k => XS.astoreN X10.here hx rfl (hb hby d7_16) rfl rfl (l' := #[.val (.ref o), .val (.ref ob), .val (.ref ob)]) rfl k) ?_
  refine own_st (g1 := (mkF m 18 #[.val (.ref o), .val (.ref ob), .val (.ref ob)] [(.ref o)])) (fun t k => XS.aloadN X10.here hx rfl (hb hby d7_17) rfl rfl k) ?_
  obtain ⟨T11, X11, e11, st11⟩ := getF X10 hx hZ hown (host := "") (Or.inl (hw _ (List.mem_of_getElem? (i := 18) rfl))) Via.refl e10 F1 (g := (mkF m 18 #[.val (.ref o), .val (.ref ob), .val (.ref ob)] [(.ref o)])) rfl rfl (hb hby d7_18)
  refine own_st (g1 := (mkF m 21 #[.val (.ref o), .val (.ref ob), .val (.ref ob)] [(.long tv)])) (st11) ?_
  refine own_st (g1 := (mkF m 22 #[.val (.ref o), .val (.ref ob), .val (.ref ob)] [(.ref ob), (.long tv)])) (fun t k => XS.aloadN X11.here hx rfl (hb hby d7_21) rfl rfl k) ?_
  obtain ⟨T12, X12, e12, st12⟩ := getF X11 hx hZ hown (host := "") (Or.inl (hw _ (List.mem_of_getElem? (i := 18) rfl))) Via.refl e11 G1 (g := (mkF m 22 #[.val (.ref o), .val (.ref ob), .val (.ref ob)] [(.ref ob), (.long tv)])) rfl rfl (hb hby d7_22)
  refine own_st (g1 := (mkF m 25 #[.val (.ref o), .val (.ref ob), .val (.ref ob)] [(.long tv), (.long tv)])) (st12) ?_
  refine own_st (g1 := (mkF m 26 #[.val (.ref o), .val (.ref ob), .val (.ref ob)] [(.int (lcmpW tv tv))])) (fun t k => XS.lcmp X12.here hx rfl (hb hby d7_25) rfl k) ?_
  refine own_st (g1 := (mkF m 29 #[.val (.ref o), .val (.ref ob), .val (.ref ob)] [])) (fun t k => XS.ifNo X12.here hx rfl (hb hby d7_26) rfl ((if0 _ _).trans (teq ((lw_eq _ _).mpr rfl)).2) k) ?_
  refine own_st (g1 := (mkF m 30 #[.val (.ref o), .val (.ref ob), .val (.ref ob)] [(.ref o)])) (fun t k => XS.aloadN X12.here hx rfl (hb hby d7_29) rfl rfl k) ?_
  obtain ⟨T13, X13, e13, st13⟩ := getF X12 hx hZ hown (host := "") (Or.inl (hw _ (List.mem_of_getElem? (i := 20) rfl))) Via.refl e12 F2 (g := (mkF m 30 #[.val (.ref o), .val (.ref ob), .val (.ref ob)] [(.ref o)])) rfl rfl (hb hby d7_30)
  refine own_st (g1 := (mkF m 33 #[.val (.ref o), .val (.ref ob), .val (.ref ob)] [(.long sv)])) (st13) ?_
  refine own_st (g1 := (mkF m 34 #[.val (.ref o), .val (.ref ob), .val (.ref ob)] [(.ref ob), (.long sv)])) (fun t k => XS.aloadN X13.here hx rfl (hb hby d7_33) rfl rfl k) ?_
  obtain ⟨T14, X14, e14, st14⟩ := getF X13 hx hZ hown (host := "") (Or.inl (hw _ (List.mem_of_getElem? (i := 20) rfl))) Via.refl e13 G2 (g := (mkF m 34 #[.val (.ref o), .val (.ref ob), .val (.ref ob)] [(.ref ob), (.long sv)])) rfl rfl (hb hby d7_34)
  refine own_st (g1 := (mkF m 37 #[.val (.ref o), .val (.ref ob), .val (.ref ob)] [(.long sv), (.long sv)])) (st14) ?_
  refine own_st (g1 := (mkF m 38 #[.val (.ref o), .val (.ref ob), .val (.ref ob)] [(.int (lcmpW sv sv))])) (fun t k => XS.lcmp X14.here hx rfl (hb hby d7_37) rfl k) ?_
  refine own_st (g1 := (mkF m 41 #[.val (.ref o), .val (.ref ob), .val (.ref ob)] [])) (fun t k => XS.ifNo X14.here hx rfl (hb hby d7_38) rfl ((if0 _ _).trans (teq ((lw_eq _ _).mpr rfl)).2) k) ?_
  refine own_st (g1 := (mkF m 42 #[.val (.ref o), .val (.ref ob), .val (.ref ob)] [(.int (1 : Int32))])) (fun t k => XS.iconst X14.here hx rfl (hb hby d7_41) k) ?_
  refine own_st (g1 := (mkF m 46 #[.val (.ref o), .val (.ref ob), .val (.ref ob)] [(.int (1 : Int32))])) (fun t k => XS.goto X14.here hx rfl (pc0 := 42) (pc' := 46) rfl (hb hby d7_42) (by decide) (by decide) k) ?_
  exact own_here X14 ⟨46, _, _, rfl, (hb hby d7_46), rfl, (by decide), (by decide), (by rw [e14]; exact ⟨rfl, Fr.nil n0, rfl⟩)⟩
theorem pn_0 : plainName "com/example/hot_coupon/hotcoupon/template/ThresholdRuleOfPinLaw" = true := by first | (simp [plainName, overriddenIn]; done) | decide +kernel
theorem ef_0 (m : MethodId) (x0 : Int64) (x1 : Int64) : entryFrame m #[(.long x0), (.long x1)] maxLocals = mkF m 0 #[.val (.long x0), .second, .val (.long x1), .second, .unset, .unset, .unset, .unset, .unset, .unset, .unset, .unset] [] := by first | (simp [entryFrame, mkF, argsToLocals, Value.category, maxLocals]; done) | rfl
def Q0 (h0 : Heap) (n0 : Nat) (v : Option Value) (h : Heap) (L : List Loc) : Prop := v = some (.int (1 : Int32)) ∧ Fr n0 L
set_option maxRecDepth 65536 in
set_option maxHeartbeats 40000000 in
theorem rm0 (l : Launch) (Z : State) (a0 : Array Value) (hw : ∀ d ∈ tables_1, d.before a0 Z = true) (ws : List Jvm.Cond) (q1 q2 : Int64) (h0 : Heap) (n0 : Nat) (Z0 : n0 ≤ h0.size) :
    Meets l Z x code maxLocals ret ws room_1 #[(.long q1), (.long q2)] h0 2 4 (Q0 h0 n0) := by
  refine own_meets (plainFor_of_name pn_0) ?_
  intro p e s m below meth c s₁ hx hZ hby hml hown hnm hret hlk X0 e0
  have hown : s.vm.findClass "com/example/hot_coupon/hotcoupon/template/ThresholdRuleOfPinLaw" = some m.cls := hown
  have hnm : meth.name = "law" := hnm
  refine own_finN (l := l) (R := room_1) (m := m) (args := #[(.long q1), (.long q2)]) (c := c) (by simp) hx hret hlk ?_
  refine own_cast (ef_0 m q1 q2) ?_
  have hm := c_maskL q1 9223372036854775807 63 (by decide) (by decide)
  have c0 : (0 : Int64).toInt = 0 := by decide
  have c1 : (1 : Int64).toInt = 1 := by decide
  have cx : (9223372036854775807 : Int64).toInt = 9223372036854775807 := by decide
  have cy : (9223372036854775806 : Int64).toInt = 9223372036854775806 := by decide
  have hA : Goes p l e room_1 s m #[(.long q1), (.long q2)] below meth c s₁ (mkF m 0 #[.val (.long q1), .second, .val (.long q2), .second, .unset, .unset, .unset, .unset, .unset, .unset, .unset, .unset] []) (fun T' L' k' n' g' => T' = s₁ ∧ L' = [] ∧ k' = 0 ∧ n' = 0 ∧ ∃ sv : Int64, 1 ≤ sv.toInt ∧ sv.toInt ≤ 9223372036854775806 ∧ g' = (mkF m 31 #[.val (.long q1), .second, .val (.long q2), .second, .val (.long sv), .second, .unset, .unset, .unset, .unset, .unset, .unset] [])) := by
    refine own_st (g1 := (mkF m 1 #[.val (.long q1), .second, .val (.long q2), .second, .unset, .unset, .unset, .unset, .unset, .unset, .unset, .unset] [(.long q1)])) (fun t k => XS.lloadN X0.here hx rfl (hb hby at_0) rfl k) ?_
    refine own_st (g1 := (mkF m 4 #[.val (.long q1), .second, .val (.long q2), .second, .unset, .unset, .unset, .unset, .unset, .unset, .unset, .unset] [(.long (9223372036854775807 : Int64)), (.long q1)])) (X0.ldc2Long hx hown (mvT hZ (hw _ (List.mem_of_getElem? (i := 0) rfl))) (g := (mkF m 1 #[.val (.long q1), .second, .val (.long q2), .second, .unset, .unset, .unset, .unset, .unset, .unset, .unset, .unset] [(.long q1)])) rfl (hb hby at_1)) ?_
    refine own_st (g1 := (mkF m 5 #[.val (.long q1), .second, .val (.long q2), .second, .unset, .unset, .unset, .unset, .unset, .unset, .unset, .unset] [(.long (q1 &&& (9223372036854775807 : Int64)))])) (fun t k => XS.land X0.here hx rfl (hb hby at_4) rfl k) ?_
    refine own_st (g1 := (mkF m 7 #[.val (.long q1), .second, .val (.long q2), .second, .val (.long (q1 &&& (9223372036854775807 : Int64))), .second, .unset, .unset, .unset, .unset, .unset, .unset] [])) (fun t k => XS.lstore X0.here hx rfl (hb hby at_5) rfl (l' := #[.val (.long q1), .second, .val (.long q2), .second, .val (.long (q1 &&& (9223372036854775807 : Int64))), .second, .unset, .unset, .unset, .unset, .unset, .unset]) rfl k) ?_
    refine own_st (g1 := (mkF m 9 #[.val (.long q1), .second, .val (.long q2), .second, .val (.long (q1 &&& (9223372036854775807 : Int64))), .second, .unset, .unset, .unset, .unset, .unset, .unset] [(.long (q1 &&& (9223372036854775807 : Int64)))])) (fun t k => XS.lload X0.here hx rfl (hb hby at_7) rfl k) ?_
    refine own_st (g1 := (mkF m 10 #[.val (.long q1), .second, .val (.long q2), .second, .val (.long (q1 &&& (9223372036854775807 : Int64))), .second, .unset, .unset, .unset, .unset, .unset, .unset] [(.long (0 : Int64)), (.long (q1 &&& (9223372036854775807 : Int64)))])) (fun t k => XS.lconst X0.here hx rfl (hb hby at_9) k) ?_
    refine own_st (g1 := (mkF m 11 #[.val (.long q1), .second, .val (.long q2), .second, .val (.long (q1 &&& (9223372036854775807 : Int64))), .second, .unset, .unset, .unset, .unset, .unset, .unset] [(.int (lcmpW (q1 &&& (9223372036854775807 : Int64)) (0 : Int64)))])) (fun t k => XS.lcmp X0.here hx rfl (hb hby at_10) rfl k) ?_
    by_cases h1 : (q1 &&& (9223372036854775807 : Int64)) = (0 : Int64)
    · refine own_st (g1 := (mkF m 14 #[.val (.long q1), .second, .val (.long q2), .second, .val (.long (q1 &&& (9223372036854775807 : Int64))), .second, .unset, .unset, .unset, .unset, .unset, .unset] [])) (fun t k => XS.ifNo X0.here hx rfl (hb hby at_11) rfl ((if0 _ _).trans (teq ((lw_eq _ _).mpr h1)).2) k) ?_
      refine own_st (g1 := (mkF m 15 #[.val (.long q1), .second, .val (.long q2), .second, .val (.long (q1 &&& (9223372036854775807 : Int64))), .second, .unset, .unset, .unset, .unset, .unset, .unset] [(.long (1 : Int64))])) (fun t k => XS.lconst X0.here hx rfl (hb hby at_14) k) ?_
      refine own_st (g1 := (mkF m 17 #[.val (.long q1), .second, .val (.long q2), .second, .val (.long (1 : Int64)), .second, .unset, .unset, .unset, .unset, .unset, .unset] [])) (fun t k => XS.lstore X0.here hx rfl (hb hby at_15) rfl (l' := #[.val (.long q1), .second, .val (.long q2), .second, .val (.long (1 : Int64)), .second, .unset, .unset, .unset, .unset, .unset, .unset]) rfl k) ?_
      refine own_st (g1 := (mkF m 19 #[.val (.long q1), .second, .val (.long q2), .second, .val (.long (1 : Int64)), .second, .unset, .unset, .unset, .unset, .unset, .unset] [(.long (1 : Int64))])) (fun t k => XS.lload X0.here hx rfl (hb hby at_17) rfl k) ?_
      refine own_st (g1 := (mkF m 22 #[.val (.long q1), .second, .val (.long q2), .second, .val (.long (1 : Int64)), .second, .unset, .unset, .unset, .unset, .unset, .unset] [(.long (9223372036854775807 : Int64)), (.long (1 : Int64))])) (X0.ldc2Long hx hown (mvT hZ (hw _ (List.mem_of_getElem? (i := 0) rfl))) (g := (mkF m 19 #[.val (.long q1), .second, .val (.long q2), .second, .val (.long (1 : Int64)), .second, .unset, .unset, .unset, .unset, .unset, .unset] [(.long (1 : Int64))])) rfl (hb hby at_19)) ?_
      refine own_st (g1 := (mkF m 23 #[.val (.long q1), .second, .val (.long q2), .second, .val (.long (1 : Int64)), .second, .unset, .unset, .unset, .unset, .unset, .unset] [(.int (lcmpW (1 : Int64) (9223372036854775807 : Int64)))])) (fun t k => XS.lcmp X0.here hx rfl (hb hby at_22) rfl k) ?_
      refine own_st (g1 := (mkF m 31 #[.val (.long q1), .second, .val (.long q2), .second, .val (.long (1 : Int64)), .second, .unset, .unset, .unset, .unset, .unset, .unset] [])) (fun t k => XS.ifYes X0.here hx rfl (pc0 := 23) (pc' := 31) rfl (hb hby at_23) rfl ((if0 _ _).trans (feq (fun q => (show ¬ ((1 : Int64) = (9223372036854775807 : Int64)) from by decide) ((lw_eq _ _).mp q))).2) (by decide) (by decide) k) ?_
      exact own_here X0 ⟨rfl, rfl, rfl, rfl, 1, by decide, by decide, rfl⟩
    · refine own_st (g1 := (mkF m 17 #[.val (.long q1), .second, .val (.long q2), .second, .val (.long (q1 &&& (9223372036854775807 : Int64))), .second, .unset, .unset, .unset, .unset, .unset, .unset] [])) (fun t k => XS.ifYes X0.here hx rfl (pc0 := 11) (pc' := 17) rfl (hb hby at_11) rfl ((if0 _ _).trans (feq (fun q => h1 ((lw_eq _ _).mp q))).2) (by decide) (by decide) k) ?_
      refine own_st (g1 := (mkF m 19 #[.val (.long q1), .second, .val (.long q2), .second, .val (.long (q1 &&& (9223372036854775807 : Int64))), .second, .unset, .unset, .unset, .unset, .unset, .unset] [(.long (q1 &&& (9223372036854775807 : Int64)))])) (fun t k => XS.lload X0.here hx rfl (hb hby at_17) rfl k) ?_
      refine own_st (g1 := (mkF m 22 #[.val (.long q1), .second, .val (.long q2), .second, .val (.long (q1 &&& (9223372036854775807 : Int64))), .second, .unset, .unset, .unset, .unset, .unset, .unset] [(.long (9223372036854775807 : Int64)), (.long (q1 &&& (9223372036854775807 : Int64)))])) (X0.ldc2Long hx hown (mvT hZ (hw _ (List.mem_of_getElem? (i := 0) rfl))) (g := (mkF m 19 #[.val (.long q1), .second, .val (.long q2), .second, .val (.long (q1 &&& (9223372036854775807 : Int64))), .second, .unset, .unset, .unset, .unset, .unset, .unset] [(.long (q1 &&& (9223372036854775807 : Int64)))])) rfl (hb hby at_19)) ?_
      refine own_st (g1 := (mkF m 23 #[.val (.long q1), .second, .val (.long q2), .second, .val (.long (q1 &&& (9223372036854775807 : Int64))), .second, .unset, .unset, .unset, .unset, .unset, .unset] [(.int (lcmpW (q1 &&& (9223372036854775807 : Int64)) (9223372036854775807 : Int64)))])) (fun t k => XS.lcmp X0.here hx rfl (hb hby at_22) rfl k) ?_
      by_cases h2 : (q1 &&& (9223372036854775807 : Int64)) = (9223372036854775807 : Int64)
      · refine own_st (g1 := (mkF m 26 #[.val (.long q1), .second, .val (.long q2), .second, .val (.long (q1 &&& (9223372036854775807 : Int64))), .second, .unset, .unset, .unset, .unset, .unset, .unset] [])) (fun t k => XS.ifNo X0.here hx rfl (hb hby at_23) rfl ((if0 _ _).trans (teq ((lw_eq _ _).mpr h2)).2) k) ?_
        refine own_st (g1 := (mkF m 29 #[.val (.long q1), .second, .val (.long q2), .second, .val (.long (q1 &&& (9223372036854775807 : Int64))), .second, .unset, .unset, .unset, .unset, .unset, .unset] [(.long (9223372036854775806 : Int64))])) (X0.ldc2Long hx hown (mvT hZ (hw _ (List.mem_of_getElem? (i := 38) rfl))) (g := (mkF m 26 #[.val (.long q1), .second, .val (.long q2), .second, .val (.long (q1 &&& (9223372036854775807 : Int64))), .second, .unset, .unset, .unset, .unset, .unset, .unset] [])) rfl (hb hby at_26)) ?_
        refine own_st (g1 := (mkF m 31 #[.val (.long q1), .second, .val (.long q2), .second, .val (.long (9223372036854775806 : Int64)), .second, .unset, .unset, .unset, .unset, .unset, .unset] [])) (fun t k => XS.lstore X0.here hx rfl (hb hby at_29) rfl (l' := #[.val (.long q1), .second, .val (.long q2), .second, .val (.long (9223372036854775806 : Int64)), .second, .unset, .unset, .unset, .unset, .unset, .unset]) rfl k) ?_
        exact own_here X0 ⟨rfl, rfl, rfl, rfl, 9223372036854775806, by decide, by decide, rfl⟩
      · refine own_st (g1 := (mkF m 31 #[.val (.long q1), .second, .val (.long q2), .second, .val (.long (q1 &&& (9223372036854775807 : Int64))), .second, .unset, .unset, .unset, .unset, .unset, .unset] [])) (fun t k => XS.ifYes X0.here hx rfl (pc0 := 23) (pc' := 31) rfl (hb hby at_23) rfl ((if0 _ _).trans (feq (fun q => h2 ((lw_eq _ _).mp q))).2) (by decide) (by decide) k) ?_
        rw [← Int64.toInt_inj] at h1 h2
        exact own_here X0 ⟨rfl, rfl, rfl, rfl, (q1 &&& (9223372036854775807 : Int64)), by omega, by omega, rfl⟩
  refine own_bind hA ?_
  rintro T1 L1 _ _ _ X1 ⟨hT1, rfl, rfl, rfl, sv, hs1, hs2, rfl⟩
  have e1 : T1.heap = h0 := by rw [hT1]; exact e0
  refine own_st (g1 := (mkF m 32 #[.val (.long q1), .second, .val (.long q2), .second, .val (.long sv), .second, .unset, .unset, .unset, .unset, .unset, .unset] [(.long q2)])) (fun t k => XS.lloadN X1.here hx rfl (hb hby at_31) rfl k) ?_
  refine own_st (g1 := (mkF m 35 #[.val (.long q1), .second, .val (.long q2), .second, .val (.long sv), .second, .unset, .unset, .unset, .unset, .unset, .unset] [(.long (9223372036854775807 : Int64)), (.long q2)])) (X1.ldc2Long hx hown (mvT hZ (hw _ (List.mem_of_getElem? (i := 0) rfl))) (g := (mkF m 32 #[.val (.long q1), .second, .val (.long q2), .second, .val (.long sv), .second, .unset, .unset, .unset, .unset, .unset, .unset] [(.long q2)])) rfl (hb hby at_32)) ?_
  refine own_st (g1 := (mkF m 36 #[.val (.long q1), .second, .val (.long q2), .second, .val (.long sv), .second, .unset, .unset, .unset, .unset, .unset, .unset] [(.long (q2 &&& (9223372036854775807 : Int64)))])) (fun t k => XS.land X1.here hx rfl (hb hby at_35) rfl k) ?_
  refine own_st (g1 := (mkF m 38 #[.val (.long q1), .second, .val (.long q2), .second, .val (.long sv), .second, .val (.long (q2 &&& (9223372036854775807 : Int64))), .second, .unset, .unset, .unset, .unset] [])) (fun t k => XS.lstore X1.here hx rfl (hb hby at_36) rfl (l' := #[.val (.long q1), .second, .val (.long q2), .second, .val (.long sv), .second, .val (.long (q2 &&& (9223372036854775807 : Int64))), .second, .unset, .unset, .unset, .unset]) rfl k) ?_
  refine own_st (g1 := (mkF m 40 #[.val (.long q1), .second, .val (.long q2), .second, .val (.long sv), .second, .val (.long (q2 &&& (9223372036854775807 : Int64))), .second, .unset, .unset, .unset, .unset] [(.long sv)])) (fun t k => XS.lload X1.here hx rfl (hb hby at_38) rfl k) ?_
  refine own_st (g1 := (mkF m 41 #[.val (.long q1), .second, .val (.long q2), .second, .val (.long sv), .second, .val (.long (q2 &&& (9223372036854775807 : Int64))), .second, .unset, .unset, .unset, .unset] [(.long (1 : Int64)), (.long sv)])) (fun t k => XS.lconst X1.here hx rfl (hb hby at_40) k) ?_
  refine own_st (g1 := (mkF m 42 #[.val (.long q1), .second, .val (.long q2), .second, .val (.long sv), .second, .val (.long (q2 &&& (9223372036854775807 : Int64))), .second, .unset, .unset, .unset, .unset] [(.long (sv + (1 : Int64)))])) (fun t k => XS.ladd X1.here hx rfl (hb hby at_41) rfl k) ?_
  refine own_st (g1 := (mkF m 44 #[.val (.long q1), .second, .val (.long q2), .second, .val (.long sv), .second, .val (.long (q2 &&& (9223372036854775807 : Int64))), .second, .unset, .unset, .unset, .unset] [(.long (q2 &&& (9223372036854775807 : Int64))), (.long (sv + (1 : Int64)))])) (fun t k => XS.lload X1.here hx rfl (hb hby at_42) rfl k) ?_
  refine own_st (g1 := (mkF m 47 #[.val (.long q1), .second, .val (.long q2), .second, .val (.long sv), .second, .val (.long (q2 &&& (9223372036854775807 : Int64))), .second, .unset, .unset, .unset, .unset] [(.long (9223372036854775807 : Int64)), (.long (q2 &&& (9223372036854775807 : Int64))), (.long (sv + (1 : Int64)))])) (X1.ldc2Long hx hown (mvT hZ (hw _ (List.mem_of_getElem? (i := 0) rfl))) (g := (mkF m 44 #[.val (.long q1), .second, .val (.long q2), .second, .val (.long sv), .second, .val (.long (q2 &&& (9223372036854775807 : Int64))), .second, .unset, .unset, .unset, .unset] [(.long (q2 &&& (9223372036854775807 : Int64))), (.long (sv + (1 : Int64)))])) rfl (hb hby at_44)) ?_
  refine own_st (g1 := (mkF m 49 #[.val (.long q1), .second, .val (.long q2), .second, .val (.long sv), .second, .val (.long (q2 &&& (9223372036854775807 : Int64))), .second, .unset, .unset, .unset, .unset] [(.long sv), (.long (9223372036854775807 : Int64)), (.long (q2 &&& (9223372036854775807 : Int64))), (.long (sv + (1 : Int64)))])) (fun t k => XS.lload X1.here hx rfl (hb hby at_47) rfl k) ?_
  refine own_st (g1 := (mkF m 50 #[.val (.long q1), .second, .val (.long q2), .second, .val (.long sv), .second, .val (.long (q2 &&& (9223372036854775807 : Int64))), .second, .unset, .unset, .unset, .unset] [(.long ((9223372036854775807 : Int64) - sv)), (.long (q2 &&& (9223372036854775807 : Int64))), (.long (sv + (1 : Int64)))])) (fun t k => XS.lsub X1.here hx rfl (hb hby at_49) rfl k) ?_
  refine own_st (g1 := (mkF m 51 #[.val (.long q1), .second, .val (.long q2), .second, .val (.long sv), .second, .val (.long (q2 &&& (9223372036854775807 : Int64))), .second, .unset, .unset, .unset, .unset] [(.long ((q2 &&& (9223372036854775807 : Int64)) - ((q2 &&& (9223372036854775807 : Int64)) / ((9223372036854775807 : Int64) - sv)) * ((9223372036854775807 : Int64) - sv))), (.long (sv + (1 : Int64)))])) (fun t k => XS.lrem X1.here hx rfl (hb hby at_50) rfl (own_nz hs1 hs2) k) ?_
  refine own_st (g1 := (mkF m 52 #[.val (.long q1), .second, .val (.long q2), .second, .val (.long sv), .second, .val (.long (q2 &&& (9223372036854775807 : Int64))), .second, .unset, .unset, .unset, .unset] [(.long ((sv + (1 : Int64)) + ((q2 &&& (9223372036854775807 : Int64)) - ((q2 &&& (9223372036854775807 : Int64)) / ((9223372036854775807 : Int64) - sv)) * ((9223372036854775807 : Int64) - sv))))])) (fun t k => XS.ladd X1.here hx rfl (hb hby at_51) rfl k) ?_
  refine own_st (g1 := (mkF m 54 #[.val (.long q1), .second, .val (.long q2), .second, .val (.long sv), .second, .val (.long (q2 &&& (9223372036854775807 : Int64))), .second, .val (.long (own_t sv q2)), .second, .unset, .unset] [])) (fun t k => XS.lstore X1.here hx rfl (hb hby at_52) rfl (l' := #[.val (.long q1), .second, .val (.long q2), .second, .val (.long sv), .second, .val (.long (q2 &&& (9223372036854775807 : Int64))), .second, .val (.long (own_t sv q2)), .second, .unset, .unset]) rfl k) ?_
  refine own_st (g1 := (mkF m 56 #[.val (.long q1), .second, .val (.long q2), .second, .val (.long sv), .second, .val (.long (q2 &&& (9223372036854775807 : Int64))), .second, .val (.long (own_t sv q2)), .second, .unset, .unset] [(.long (own_t sv q2))])) (fun t k => XS.lload X1.here hx rfl (hb hby at_54) rfl k) ?_
  refine own_st (g1 := (mkF m 58 #[.val (.long q1), .second, .val (.long q2), .second, .val (.long sv), .second, .val (.long (q2 &&& (9223372036854775807 : Int64))), .second, .val (.long (own_t sv q2)), .second, .unset, .unset] [(.long sv), (.long (own_t sv q2))])) (fun t k => XS.lload X1.here hx rfl (hb hby at_56) rfl k) ?_
  obtain ⟨_, _, ⟨T15, L15, k15, n15⟩, -, X15, ⟨Lc15, hQ15, l15, y15, z15⟩, st15⟩ := Jvm.LawKit.callS X1 hx (y := (⟨"com/example/hot_coupon/hotcoupon/template/ThresholdRule", "of", "(JJ)Lcom/example/hot_coupon/hotcoupon/template/ThresholdRule;"⟩ : MethodName)) hown (mvT hZ (hw _ (List.mem_of_getElem? (i := 1) rfl))) (mvT hZ (hw _ (List.mem_of_getElem? (i := 2) rfl))) (mvT hZ (hw _ (List.mem_of_getElem? (i := 3) rfl))) (mvT hZ (hw _ (List.mem_of_getElem? (i := 4) rfl))) (by decide) (backOf (W := 0) (rm1 l Z a0 hw [] (own_t sv q2) sv h0 n0 Z0 (own_ge hs1) (own_tb q2 hs1 hs2)) hZ (hw _ (List.mem_of_getElem? (i := 4) rfl)) (hw _ (List.mem_of_getElem? (i := 3) rfl)) (by decide) (by decide)) (g := (mkF m 58 #[.val (.long q1), .second, .val (.long q2), .second, .val (.long sv), .second, .val (.long (q2 &&& (9223372036854775807 : Int64))), .second, .val (.long (own_t sv q2)), .second, .unset, .unset] [(.long sv), (.long (own_t sv q2))])) rfl (by rw [hml]; rfl) (argsL := [(.long (own_t sv q2)), (.long sv)]) (rest := []) (lenOf pd_2 rfl) rfl (by show 2 * 0 + _ ≤ _; exact Nat.le_of_eq rfl) (hb hby at_58) (fun _ _ => ⟨rfl, e1, (by decide : 0 + 1 ≤ _), (by decide : 0 + 2 ≤ _)⟩)
  dsimp only [Pt.U, Pt.locs, Pt.cells, Pt.slots] at X15 l15 y15 z15 st15 hQ15
  subst l15 y15 z15
  obtain ⟨r, rfl, N15, hr, K15, E15, FT15, FS15⟩ := hQ15
  refine own_st (g1 := (mkF m 61 #[.val (.long q1), .second, .val (.long q2), .second, .val (.long sv), .second, .val (.long (q2 &&& (9223372036854775807 : Int64))), .second, .val (.long (own_t sv q2)), .second, .unset, .unset] [(.ref r)])) (st15) ?_
  have Zk : n0 ≤ T15.heap.size := Nat.le_trans Z0 K15.1
  refine own_st (g1 := (mkF m 63 #[.val (.long q1), .second, .val (.long q2), .second, .val (.long sv), .second, .val (.long (q2 &&& (9223372036854775807 : Int64))), .second, .val (.long (own_t sv q2)), .second, .val (.ref r), .unset] [])) (fun t k => XS.astore X15.here hx rfl (hb hby at_61) rfl rfl (l' := #[.val (.long q1), .second, .val (.long q2), .second, .val (.long sv), .second, .val (.long (q2 &&& (9223372036854775807 : Int64))), .second, .val (.long (own_t sv q2)), .second, .val (.ref r), .unset]) rfl k) ?_
  refine own_st (g1 := (mkF m 65 #[.val (.long q1), .second, .val (.long q2), .second, .val (.long sv), .second, .val (.long (q2 &&& (9223372036854775807 : Int64))), .second, .val (.long (own_t sv q2)), .second, .val (.ref r), .unset] [(.ref r)])) (fun t k => XS.aload X15.here hx rfl (hb hby at_63) rfl rfl k) ?_
  refine own_st (g1 := (mkF m 70 #[.val (.long q1), .second, .val (.long q2), .second, .val (.long sv), .second, .val (.long (q2 &&& (9223372036854775807 : Int64))), .second, .val (.long (own_t sv q2)), .second, .val (.ref r), .unset] [])) (fun t k => XS.ifnonnullYes X15.here hx rfl (pc0 := 65) (pc' := 70) rfl (hb hby at_65) rfl (by decide) (by decide) k) ?_
  refine own_st (g1 := (mkF m 72 #[.val (.long q1), .second, .val (.long q2), .second, .val (.long sv), .second, .val (.long (q2 &&& (9223372036854775807 : Int64))), .second, .val (.long (own_t sv q2)), .second, .val (.ref r), .unset] [(.ref r)])) (fun t k => XS.aload X15.here hx rfl (hb hby at_70) rfl rfl k) ?_
  obtain ⟨cq16, kq16, q16a, q16b, q16c⟩ := isOf hZ rfl E15
  obtain ⟨_, _, ⟨T16, L16, k16, n16⟩, -, X16, ⟨Lc16, hQ16, l16, y16, z16⟩, st16⟩ := X15.virtualBack hx (y := (⟨"com/example/hot_coupon/hotcoupon/template/ThresholdRule", "getThreshold", "()J"⟩ : MethodName)) (z := (⟨"com/example/hot_coupon/hotcoupon/template/ThresholdRule", "getThreshold", "()J"⟩ : MethodName)) hown (mvT hZ (hw _ (List.mem_of_getElem? (i := 22) rfl))) (mvT hZ (hw _ (List.mem_of_getElem? (i := 23) rfl))) (notFace_of_selects (args := #[]) (mvT hZ (hw _ (List.mem_of_getElem? (i := 25) rfl)))) (mvT hZ (hw _ (List.mem_of_getElem? (i := 25) rfl))) (mvT hZ (hw _ (List.mem_of_getElem? (i := 24) rfl))) (by decide) (backOf (W := 0) (rm5 l Z a0 hw [] r (own_t sv q2) T15.heap n0 FT15) hZ (hw _ (List.mem_of_getElem? (i := 26) rfl)) (hw _ (List.mem_of_getElem? (i := 3) rfl)) (by decide) (by decide)) q16a q16c (g := (mkF m 72 #[.val (.long q1), .second, .val (.long q2), .second, .val (.long sv), .second, .val (.long (q2 &&& (9223372036854775807 : Int64))), .second, .val (.long (own_t sv q2)), .second, .val (.ref r), .unset] [(.ref r)])) rfl (by rw [hml]; rfl) (Steps.refl _) (argsL := []) (rest := []) (lenOf pd_3 rfl) rfl (by show 2 * 0 + _ ≤ _; exact Nat.le_of_eq rfl) (hb hby at_72) (fun _ _ => ⟨rfl, rfl, (by decide : 0 + 1 + 0 ≤ _), (by decide : 0 + 2 + 0 ≤ _)⟩)
  dsimp only [Pt.U, Pt.locs, Pt.cells, Pt.slots] at X16 l16 y16 z16 st16 hQ16
  subst l16 y16 z16
  obtain ⟨rfl, N16, hh16⟩ := hQ16
  refine own_st (g1 := (mkF m 75 #[.val (.long q1), .second, .val (.long q2), .second, .val (.long sv), .second, .val (.long (q2 &&& (9223372036854775807 : Int64))), .second, .val (.long (own_t sv q2)), .second, .val (.ref r), .unset] [(.long (own_t sv q2))])) (fun t k => st16.trans k) ?_
  have eh2 : T16.heap = T15.heap := hh16
  refine own_st (g1 := (mkF m 77 #[.val (.long q1), .second, .val (.long q2), .second, .val (.long sv), .second, .val (.long (q2 &&& (9223372036854775807 : Int64))), .second, .val (.long (own_t sv q2)), .second, .val (.ref r), .unset] [(.long (own_t sv q2)), (.long (own_t sv q2))])) (fun t k => XS.lload X16.here hx rfl (hb hby at_75) rfl k) ?_
  refine own_st (g1 := (mkF m 78 #[.val (.long q1), .second, .val (.long q2), .second, .val (.long sv), .second, .val (.long (q2 &&& (9223372036854775807 : Int64))), .second, .val (.long (own_t sv q2)), .second, .val (.ref r), .unset] [(.int (lcmpW (own_t sv q2) (own_t sv q2)))])) (fun t k => XS.lcmp X16.here hx rfl (hb hby at_77) rfl k) ?_
  refine own_st (g1 := (mkF m 83 #[.val (.long q1), .second, .val (.long q2), .second, .val (.long sv), .second, .val (.long (q2 &&& (9223372036854775807 : Int64))), .second, .val (.long (own_t sv q2)), .second, .val (.ref r), .unset] [])) (fun t k => XS.ifYes X16.here hx rfl (pc0 := 78) (pc' := 83) rfl (hb hby at_78) rfl ((if0 _ _).trans (teq ((lw_eq _ _).mpr rfl)).1) (by decide) (by decide) k) ?_
  refine own_st (g1 := (mkF m 85 #[.val (.long q1), .second, .val (.long q2), .second, .val (.long sv), .second, .val (.long (q2 &&& (9223372036854775807 : Int64))), .second, .val (.long (own_t sv q2)), .second, .val (.ref r), .unset] [(.ref r)])) (fun t k => XS.aload X16.here hx rfl (hb hby at_83) rfl rfl k) ?_
  obtain ⟨cq17, kq17, q17a, q17b, q17c⟩ := isOf hZ eh2 E15
  obtain ⟨_, _, ⟨T17, L17, k17, n17⟩, -, X17, ⟨Lc17, hQ17, l17, y17, z17⟩, st17⟩ := X16.virtualBack hx (y := (⟨"com/example/hot_coupon/hotcoupon/template/ThresholdRule", "getSaving", "()J"⟩ : MethodName)) (z := (⟨"com/example/hot_coupon/hotcoupon/template/ThresholdRule", "getSaving", "()J"⟩ : MethodName)) hown (mvT hZ (hw _ (List.mem_of_getElem? (i := 27) rfl))) (mvT hZ (hw _ (List.mem_of_getElem? (i := 28) rfl))) (notFace_of_selects (args := #[]) (mvT hZ (hw _ (List.mem_of_getElem? (i := 30) rfl)))) (mvT hZ (hw _ (List.mem_of_getElem? (i := 30) rfl))) (mvT hZ (hw _ (List.mem_of_getElem? (i := 29) rfl))) (by decide) (backOf (W := 0) (rm6 l Z a0 hw [] r sv T15.heap n0 FS15) hZ (hw _ (List.mem_of_getElem? (i := 31) rfl)) (hw _ (List.mem_of_getElem? (i := 3) rfl)) (by decide) (by decide)) q17a q17c (g := (mkF m 85 #[.val (.long q1), .second, .val (.long q2), .second, .val (.long sv), .second, .val (.long (q2 &&& (9223372036854775807 : Int64))), .second, .val (.long (own_t sv q2)), .second, .val (.ref r), .unset] [(.ref r)])) rfl (by rw [hml]; rfl) (Steps.refl _) (argsL := []) (rest := []) (lenOf pd_3 rfl) rfl (by show 2 * 0 + _ ≤ _; exact Nat.le_of_eq rfl) (hb hby at_85) (fun _ _ => ⟨rfl, eh2, (by decide : 0 + 1 + 0 + 0 ≤ _), (by decide : 0 + 2 + 0 + 0 ≤ _)⟩)
  dsimp only [Pt.U, Pt.locs, Pt.cells, Pt.slots] at X17 l17 y17 z17 st17 hQ17
  subst l17 y17 z17
  obtain ⟨rfl, N17, hh17⟩ := hQ17
  refine own_st (g1 := (mkF m 88 #[.val (.long q1), .second, .val (.long q2), .second, .val (.long sv), .second, .val (.long (q2 &&& (9223372036854775807 : Int64))), .second, .val (.long (own_t sv q2)), .second, .val (.ref r), .unset] [(.long sv)])) (fun t k => st17.trans k) ?_
  have eh3 : T17.heap = T15.heap := hh17
  refine own_st (g1 := (mkF m 90 #[.val (.long q1), .second, .val (.long q2), .second, .val (.long sv), .second, .val (.long (q2 &&& (9223372036854775807 : Int64))), .second, .val (.long (own_t sv q2)), .second, .val (.ref r), .unset] [(.long sv), (.long sv)])) (fun t k => XS.lload X17.here hx rfl (hb hby at_88) rfl k) ?_
  refine own_st (g1 := (mkF m 91 #[.val (.long q1), .second, .val (.long q2), .second, .val (.long sv), .second, .val (.long (q2 &&& (9223372036854775807 : Int64))), .second, .val (.long (own_t sv q2)), .second, .val (.ref r), .unset] [(.int (lcmpW sv sv))])) (fun t k => XS.lcmp X17.here hx rfl (hb hby at_90) rfl k) ?_
  refine own_st (g1 := (mkF m 96 #[.val (.long q1), .second, .val (.long q2), .second, .val (.long sv), .second, .val (.long (q2 &&& (9223372036854775807 : Int64))), .second, .val (.long (own_t sv q2)), .second, .val (.ref r), .unset] [])) (fun t k => XS.ifYes X17.here hx rfl (pc0 := 91) (pc' := 96) rfl (hb hby at_91) rfl ((if0 _ _).trans (teq ((lw_eq _ _).mpr rfl)).1) (by decide) (by decide) k) ?_
  refine own_st (g1 := (mkF m 98 #[.val (.long q1), .second, .val (.long q2), .second, .val (.long sv), .second, .val (.long (q2 &&& (9223372036854775807 : Int64))), .second, .val (.long (own_t sv q2)), .second, .val (.ref r), .unset] [(.long (own_t sv q2))])) (fun t k => XS.lload X17.here hx rfl (hb hby at_96) rfl k) ?_
  refine own_st (g1 := (mkF m 100 #[.val (.long q1), .second, .val (.long q2), .second, .val (.long sv), .second, .val (.long (q2 &&& (9223372036854775807 : Int64))), .second, .val (.long (own_t sv q2)), .second, .val (.ref r), .unset] [(.long sv), (.long (own_t sv q2))])) (fun t k => XS.lload X17.here hx rfl (hb hby at_98) rfl k) ?_
  obtain ⟨_, _, ⟨T18, L18, k18, n18⟩, -, X18, ⟨Lc18, hQ18, l18, y18, z18⟩, st18⟩ := Jvm.LawKit.callS X17 hx (y := (⟨"com/example/hot_coupon/hotcoupon/template/ThresholdRule", "of", "(JJ)Lcom/example/hot_coupon/hotcoupon/template/ThresholdRule;"⟩ : MethodName)) hown (mvT hZ (hw _ (List.mem_of_getElem? (i := 1) rfl))) (mvT hZ (hw _ (List.mem_of_getElem? (i := 2) rfl))) (mvT hZ (hw _ (List.mem_of_getElem? (i := 3) rfl))) (mvT hZ (hw _ (List.mem_of_getElem? (i := 4) rfl))) (by decide) (backOf (W := 0) (rm1 l Z a0 hw [] (own_t sv q2) sv T15.heap n0 Zk (own_ge hs1) (own_tb q2 hs1 hs2)) hZ (hw _ (List.mem_of_getElem? (i := 4) rfl)) (hw _ (List.mem_of_getElem? (i := 3) rfl)) (by decide) (by decide)) (g := (mkF m 100 #[.val (.long q1), .second, .val (.long q2), .second, .val (.long sv), .second, .val (.long (q2 &&& (9223372036854775807 : Int64))), .second, .val (.long (own_t sv q2)), .second, .val (.ref r), .unset] [(.long sv), (.long (own_t sv q2))])) rfl (by rw [hml]; rfl) (argsL := [(.long (own_t sv q2)), (.long sv)]) (rest := []) (lenOf pd_2 rfl) rfl (by show 2 * 0 + _ ≤ _; exact Nat.le_of_eq rfl) (hb hby at_100) (fun _ _ => ⟨rfl, eh3, (by decide : 0 + 1 + 0 + 0 + 1 ≤ _), (by decide : 0 + 2 + 0 + 0 + 2 ≤ _)⟩)
  dsimp only [Pt.U, Pt.locs, Pt.cells, Pt.slots] at X18 l18 y18 z18 st18 hQ18
  subst l18 y18 z18
  obtain ⟨r2, rfl, N18, hr2, K18, E18, FT18, FS18⟩ := hQ18
  refine own_st (g1 := (mkF m 103 #[.val (.long q1), .second, .val (.long q2), .second, .val (.long sv), .second, .val (.long (q2 &&& (9223372036854775807 : Int64))), .second, .val (.long (own_t sv q2)), .second, .val (.ref r), .unset] [(.ref r2)])) (st18) ?_
  have hne : ¬ r2 = r := by have := own_el E15; omega
  refine own_st (g1 := (mkF m 105 #[.val (.long q1), .second, .val (.long q2), .second, .val (.long sv), .second, .val (.long (q2 &&& (9223372036854775807 : Int64))), .second, .val (.long (own_t sv q2)), .second, .val (.ref r), .val (.ref r2)] [])) (fun t k => XS.astore X18.here hx rfl (hb hby at_103) rfl rfl (l' := #[.val (.long q1), .second, .val (.long q2), .second, .val (.long sv), .second, .val (.long (q2 &&& (9223372036854775807 : Int64))), .second, .val (.long (own_t sv q2)), .second, .val (.ref r), .val (.ref r2)]) rfl k) ?_
  refine own_st (g1 := (mkF m 107 #[.val (.long q1), .second, .val (.long q2), .second, .val (.long sv), .second, .val (.long (q2 &&& (9223372036854775807 : Int64))), .second, .val (.long (own_t sv q2)), .second, .val (.ref r), .val (.ref r2)] [(.ref r)])) (fun t k => XS.aload X18.here hx rfl (hb hby at_105) rfl rfl k) ?_
  refine own_st (g1 := (mkF m 109 #[.val (.long q1), .second, .val (.long q2), .second, .val (.long sv), .second, .val (.long (q2 &&& (9223372036854775807 : Int64))), .second, .val (.long (own_t sv q2)), .second, .val (.ref r), .val (.ref r2)] [(.ref r2), (.ref r)])) (fun t k => XS.aload X18.here hx rfl (hb hby at_107) rfl rfl k) ?_
  obtain ⟨cq19, kq19, q19a, q19b, q19c⟩ := isOf hZ rfl (E15.keep K18)
  obtain ⟨_, _, ⟨T19, L19, k19, n19⟩, -, X19, ⟨Lc19, hQ19, l19, y19, z19⟩, st19⟩ := X18.virtualBack hx (y := (⟨"com/example/hot_coupon/hotcoupon/template/ThresholdRule", "equals", "(Ljava/lang/Object;)Z"⟩ : MethodName)) (z := (⟨"com/example/hot_coupon/hotcoupon/template/ThresholdRule", "equals", "(Ljava/lang/Object;)Z"⟩ : MethodName)) hown (mvT hZ (hw _ (List.mem_of_getElem? (i := 32) rfl))) (mvT hZ (hw _ (List.mem_of_getElem? (i := 33) rfl))) (notFace_of_selects (args := #[]) (mvT hZ (hw _ (List.mem_of_getElem? (i := 35) rfl)))) (mvT hZ (hw _ (List.mem_of_getElem? (i := 35) rfl))) (mvT hZ (hw _ (List.mem_of_getElem? (i := 34) rfl))) (by decide) (backOf (W := 0) (rm7 l Z a0 hw [] r r2 (own_t sv q2) sv T18.heap n0 hne E18 (FT15.keep K18 nin0) (FS15.keep K18 nin0) FT18 FS18) hZ (hw _ (List.mem_of_getElem? (i := 36) rfl)) (hw _ (List.mem_of_getElem? (i := 3) rfl)) (by decide) (by decide)) q19a q19c (g := (mkF m 109 #[.val (.long q1), .second, .val (.long q2), .second, .val (.long sv), .second, .val (.long (q2 &&& (9223372036854775807 : Int64))), .second, .val (.long (own_t sv q2)), .second, .val (.ref r), .val (.ref r2)] [(.ref r2), (.ref r)])) rfl (by rw [hml]; rfl) (Steps.refl _) (argsL := [(.ref r2)]) (rest := []) (lenOf pd_4 rfl) rfl (by show 2 * 0 + _ ≤ _; exact Nat.le_of_eq rfl) (hb hby at_109) (fun _ _ => ⟨rfl, rfl, (by decide : 0 + 1 + 0 + 0 + 1 + 0 ≤ _), (by decide : 0 + 2 + 0 + 0 + 2 + 0 ≤ _)⟩)
  dsimp only [Pt.U, Pt.locs, Pt.cells, Pt.slots] at X19 l19 y19 z19 st19 hQ19
  subst l19 y19 z19
  obtain ⟨rfl, N19, hh19⟩ := hQ19
  refine own_st (g1 := (mkF m 112 #[.val (.long q1), .second, .val (.long q2), .second, .val (.long sv), .second, .val (.long (q2 &&& (9223372036854775807 : Int64))), .second, .val (.long (own_t sv q2)), .second, .val (.ref r), .val (.ref r2)] [(.int (1 : Int32))])) (fun t k => st19.trans k) ?_
  exact own_here X19 ⟨112, _, _, rfl, (hb hby at_112), rfl, (by decide), (by decide), ⟨rfl, Fr.app (Fr.app (Fr.app (Fr.app (Fr.app (Fr.nil n0) N15) N16) N17) N18) N19⟩⟩
set_option maxRecDepth 65536 in
set_option maxHeartbeats 40000000 in
theorem comes_1 {Post : Tables → Env → Array Value → State → Outcome → State → Prop} (hpost : ∀ tb e args s v u, (limb_1_1.after args s (.returned v) u = true ∧ limb_1_2.after args s (.returned v) u = true ∧ True) → FrameEnd s (.returned v) u (Jvm.fieldLocs frame_1_writes args s ++ Jvm.arrayLocs frame_1_arrays args s ++ Jvm.staticLocs frame_1_statics s) 16 128 → Post tb e args s (.returned v) u) :
    ArmFor flags0 classFile x code maxLocals ret World_1 tables_1 room_1 Calls_1 rest_1 Pre_1 Post := by
  intro l hfl _ _ p e ha hc hk s m args below hf hA hF happ hP
  obtain ⟨hcalls, hrest, hpre⟩ := hP
  obtain ⟨-, -, -, hnamed, -, -, -, hat⟩ := (Spec.applies_iff hf).mp happ
  obtain ⟨hg, hn⟩ := and_e (Cond.before_iff.mp (show (Jvm.Cond.and given_1 narrow_1).before args s = true from hpre))
  obtain ⟨gc, g0⟩ := and_e hg
  obtain ⟨a0, g1⟩ := and_e g0
  have a1 := g1
  obtain ⟨w0, w1, rfl⟩ : ∃ w0 w1 : Value, args = #[w0, w1] := by
    have hs : args.size = 2 := by simpa [Cond.value, given_1] using gc
    obtain ⟨L⟩ := args
    match L, hs with
    | [w0, w1], _ => exact ⟨w0, w1, rfl⟩
  have hw := fun d (hd : d ∈ tables_1) => atoms_spec (ws := Jvm.Cond.code x code maxLocals ret :: tables_1) hat d (List.mem_cons_of_mem _ hd)
  obtain ⟨i0, ei0⟩ := isL_v a0
  obtain rfl : w0 = (.long i0) := Option.some.inj ei0
  obtain ⟨i1, ei1⟩ := isL_v a1
  obtain rfl : w1 = (.long i1) := Option.some.inj ei1
  obtain ⟨n, o, h1, h2, h3, _, L, rfl, ⟨rfl, N⟩, hq⟩ := rm0 l s _ hw tables_1 i0 i1 s.heap s.heap.size (Nat.le_refl _) p e ha hc hk s m _ below hf ((Spec.applies_iff_loose hf).mp happ).1 ⟨rfl, State.Warmed39.refl s, rfl⟩ trivial
  refine ⟨n, _, h1, h2, h3, hpost _ _ _ _ _ _ ⟨Cond.after_iff.mpr rfl, Cond.after_iff.mpr (eq_i res_at (Term.int_eval (1)) rfl), trivial⟩ ⟨hq.1, hq.2.1, (hq.2.2.sift fun y hy => Or.inr (N y hy)).mono (by decide) (by decide)⟩⟩
theorem main_1_1 : Claimed_1_1 := comes_1 fun _ _ _ _ _ _ h hF => ⟨h.1, hF⟩
theorem main_1_2 : Claimed_1_2 := comes_1 fun _ _ _ _ _ _ h hF => ⟨h.2.1, hF⟩
end Jvm.Pilot.@@N@@
namespace Jvm.Pilot.@@N@@
open Jvm Jvm.ClassFile Sem Op Lib Jvm.Free Jvm.Stand Jvm.Pilot.@@N@@.Jvm.D
/-! MADE BY PROGRAM (witnessworld.py) out of the Statement's table words and the real class files: 10 classes; the members and pool entries that the words name. The judged class is class 1, her method 1. -/
namespace start1
open Jvm.ClassFile
def u (s : String) : CpInfo := .utf8 (stringToUtf16 s)
/-- a pool by its gaps: so many unusable entries, then the entry; so many at the end -/
def gap : Nat → List CpInfo → List CpInfo
  | 0, r => r
  | n + 1, r => .unusable :: gap n r
def poolList (es : List (Nat × CpInfo)) (last : Nat) : List CpInfo := es.foldr (fun e r => gap e.1 (e.2 :: r)) (gap last [])
def pool (es : List (Nat × CpInfo)) (last : Nat) : Array CpInfo := ⟨poolList es last⟩
def fileOf (pool : Array CpInfo) (this : Nat) (attrs : Array Attribute := #[]) (ms : Array MethodInfo := #[]) (fl : Nat := 33) (sup : Nat := 0) (ifs : Array Nat := #[]) (fds : Array FieldInfo := #[]) : ClassFile where
  minorVersion := 0
  majorVersion := 65
  constantPool := pool
  accessFlags := fl
  thisClass := this
  superClass := sup
  interfaces := ifs
  fields := fds
  methods := ms
  attributes := attrs
def plain (name : String) (sup : Option ClassId) : Class where
  name := name
  kind := .ordinary
  loader := none
  accessFlags := 33
  super := sup
  interfaces := #[]
  cf := none
  fields := #[]
  methods := #[]
  instanceTypes := #[]
  staticTypes := #[]
  resolved := #[]
  callSites := []
  init := .initialized
  statics := none
  mirror := none

def pool0 : Array CpInfo := pool [(5, u "<init>"), (0, u "()V"), (1, .class_ 10), (1, u "java/lang/Object")] 113

def k0c0 : Code := { maxStack := 0, maxLocals := 1, code := object_method_1_code, exceptionTable := #[], attributes := #[] }
def k0m0 : Method := { name := "<init>", desc := "()V", sig := { parameters := [], returnType := none }, accessFlags := 1, code := some k0c0 }
/-- java/lang/Object -/
def k0 : Class := { plain "java/lang/Object" none with
  accessFlags := 33
  interfaces := #[]
  cf := some (fileOf pool0 8 #[] #[{ accessFlags := 1, nameIndex := 5, descriptorIndex := 6, attributes := #[] }] 33 0 #[] #[])
  fields := #[]
  methods := #[k0m0]
  instanceTypes := #[]
  staticTypes := #[]
  resolved := Array.replicate 124 none
  statics := none }

def pool1 : Array CpInfo := pool [(2, .class_ 4), (1, u "java/lang/Object"), (0, u "<init>"), (0, u "()V"), (2, .long 9223372036854775807), (1, .long 9223372036854775806), (1, .methodref 14 15), (0, .class_ 16), (0, .nameAndType 17 18), (0, u "com/example/hot_coupon/hotcoupon/template/ThresholdRule"), (0, u "of"), (0, u "(JJ)Lcom/example/hot_coupon/hotcoupon/template/ThresholdRule;"), (0, .methodref 14 20), (0, .nameAndType 21 22), (0, u "getThreshold"), (0, u "()J"), (0, .methodref 14 24), (0, .nameAndType 25 22), (0, u "getSaving"), (0, .methodref 14 27), (0, .nameAndType 28 29), (0, u "equals"), (0, u "(Ljava/lang/Object;)Z"), (0, .class_ 31), (0, u "com/example/hot_coupon/hotcoupon/template/ThresholdRuleOfPinLaw"), (2, u "law"), (0, u "(JJ)Z")] 3

def k1m0 : Method := { name := "<init>", desc := "()V", sig := { parameters := [], returnType := none }, accessFlags := 1, code := none }
def k1c1 : Code := { maxStack := 8, maxLocals := 12, code := code, exceptionTable := #[], attributes := #[] }
def k1m1 : Method := { name := "law", desc := "(JJ)Z", sig := { parameters := [.long, .long], returnType := some .boolean }, accessFlags := 9, code := some k1c1 }
/-- com/example/hot_coupon/hotcoupon/template/ThresholdRuleOfPinLaw -/
def k1 : Class := { plain "com/example/hot_coupon/hotcoupon/template/ThresholdRuleOfPinLaw" (some 0) with
  accessFlags := 49
  interfaces := #[]
  cf := some (fileOf pool1 30 #[] #[{ accessFlags := 1, nameIndex := 5, descriptorIndex := 6, attributes := #[] }, { accessFlags := 9, nameIndex := 34, descriptorIndex := 35, attributes := #[] }] 49 2 #[] #[])
  fields := #[]
  methods := #[k1m0, k1m1]
  instanceTypes := #[]
  staticTypes := #[]
  resolved := Array.replicate 39 none
  statics := none }

def pool2 : Array CpInfo := pool [(1, .methodref 2 3), (0, .class_ 4), (0, .nameAndType 5 6), (0, u "java/lang/Object"), (0, u "<init>"), (0, u "()V"), (9, .class_ 18), (1, u "com/example/hot_coupon/hotcoupon/template/DiscountRule"), (0, u "THRESHOLD_TEXT"), (0, u "Ljava/util/regex/Pattern;"), (28, u "RATE_TEXT")] 63

def k2c0 : Code := { maxStack := 1, maxLocals := 1, code := prog_13_method_1_code, exceptionTable := #[], attributes := #[] }
def k2m0 : Method := { name := "<init>", desc := "()V", sig := { parameters := [], returnType := none }, accessFlags := 1, code := some k2c0 }
/-- com/example/hot_coupon/hotcoupon/template/DiscountRule -/
def k2 : Class := { plain "com/example/hot_coupon/hotcoupon/template/DiscountRule" (some 0) with
  accessFlags := 1057
  interfaces := #[]
  cf := some (fileOf pool2 16 #[] #[{ accessFlags := 1, nameIndex := 5, descriptorIndex := 6, attributes := #[] }] 1057 2 #[] #[{ accessFlags := 26, nameIndex := 19, descriptorIndex := 20, attributes := #[] }, { accessFlags := 26, nameIndex := 49, descriptorIndex := 20, attributes := #[] }])
  fields := #[{ name := "THRESHOLD_TEXT", type := (.object "java/util/regex/Pattern"), accessFlags := 26, slot := 0, constantValue := 0 }, { name := "RATE_TEXT", type := (.object "java/util/regex/Pattern"), accessFlags := 26, slot := 1, constantValue := 0 }]
  methods := #[k2m0]
  instanceTypes := #[]
  staticTypes := #[(.object "java/util/regex/Pattern"), (.object "java/util/regex/Pattern")]
  resolved := Array.replicate 113 none
  statics := none }

def pool3 : Array CpInfo := pool [(9, u "<init>"), (4, .class_ 15), (0, u "com/example/hot_coupon/hotcoupon/template/ThresholdRule"), (0, .methodref 14 17), (0, .nameAndType 9 18), (0, u "(JJ)V"), (0, .methodref 20 21), (0, .class_ 22), (0, .nameAndType 9 23), (0, u "com/example/hot_coupon/hotcoupon/template/DiscountRule"), (0, u "()V"), (0, .fieldref 14 25), (0, .nameAndType 26 27), (0, u "threshold"), (0, u "J"), (0, .fieldref 14 29), (0, .nameAndType 30 27), (0, u "saving"), (7, u "of"), (0, u "(JJ)Lcom/example/hot_coupon/hotcoupon/template/ThresholdRule;"), (3, u "getThreshold"), (0, u "()J"), (0, u "getSaving"), (0, u "equals"), (0, u "(Ljava/lang/Object;)Z")] 24

def k3c0 : Code := { maxStack := 6, maxLocals := 4, code := prog_20_method_1_code, exceptionTable := #[], attributes := #[] }
def k3m0 : Method := { name := "of", desc := "(JJ)Lcom/example/hot_coupon/hotcoupon/template/ThresholdRule;", sig := { parameters := [.long, .long], returnType := some (.object "com/example/hot_coupon/hotcoupon/template/ThresholdRule") }, accessFlags := 9, code := some k3c0 }
def k3c1 : Code := { maxStack := 3, maxLocals := 5, code := prog_20_method_2_code, exceptionTable := #[], attributes := #[] }
def k3m1 : Method := { name := "<init>", desc := "(JJ)V", sig := { parameters := [.long, .long], returnType := none }, accessFlags := 2, code := some k3c1 }
def k3c2 : Code := { maxStack := 2, maxLocals := 1, code := prog_20_method_3_code, exceptionTable := #[], attributes := #[] }
def k3m2 : Method := { name := "getThreshold", desc := "()J", sig := { parameters := [], returnType := some .long }, accessFlags := 1, code := some k3c2 }
def k3c3 : Code := { maxStack := 2, maxLocals := 1, code := prog_20_method_4_code, exceptionTable := #[], attributes := #[] }
def k3m3 : Method := { name := "getSaving", desc := "()J", sig := { parameters := [], returnType := some .long }, accessFlags := 1, code := some k3c3 }
def k3c4 : Code := { maxStack := 4, maxLocals := 3, code := prog_20_method_5_code, exceptionTable := #[], attributes := #[] }
def k3m4 : Method := { name := "equals", desc := "(Ljava/lang/Object;)Z", sig := { parameters := [(.object "java/lang/Object")], returnType := some .boolean }, accessFlags := 1, code := some k3c4 }
/-- com/example/hot_coupon/hotcoupon/template/ThresholdRule -/
def k3 : Class := { plain "com/example/hot_coupon/hotcoupon/template/ThresholdRule" (some 2) with
  accessFlags := 49
  interfaces := #[]
  cf := some (fileOf pool3 14 #[] #[{ accessFlags := 9, nameIndex := 38, descriptorIndex := 39, attributes := #[] }, { accessFlags := 2, nameIndex := 9, descriptorIndex := 18, attributes := #[] }, { accessFlags := 1, nameIndex := 43, descriptorIndex := 44, attributes := #[] }, { accessFlags := 1, nameIndex := 45, descriptorIndex := 44, attributes := #[] }, { accessFlags := 1, nameIndex := 46, descriptorIndex := 47, attributes := #[] }] 49 20 #[] #[{ accessFlags := 18, nameIndex := 26, descriptorIndex := 27, attributes := #[] }, { accessFlags := 18, nameIndex := 30, descriptorIndex := 27, attributes := #[] }])
  fields := #[{ name := "threshold", type := .long, accessFlags := 18, slot := 0, constantValue := 0 }, { name := "saving", type := .long, accessFlags := 18, slot := 1, constantValue := 0 }]
  methods := #[k3m0, k3m1, k3m2, k3m3, k3m4]
  instanceTypes := #[.long, .long]
  staticTypes := #[]
  resolved := Array.replicate 72 none
  statics := none }

def pool4 : Array CpInfo := pool [(1, u "java/lang/Cloneable"), (0, .class_ 1), (0, u "java/lang/Object"), (0, .class_ 3)] 3

/-- java/lang/Cloneable -/
def k4 : Class := { plain "java/lang/Cloneable" (some 0) with
  accessFlags := 1537
  interfaces := #[]
  cf := some (fileOf pool4 2 #[] #[] 1537 4 #[] #[])
  fields := #[]
  methods := #[]
  instanceTypes := #[]
  staticTypes := #[]
  resolved := Array.replicate 8 none
  statics := none }

def pool5 : Array CpInfo := pool [(1, u "java/io/Serializable"), (0, .class_ 1), (0, u "java/lang/Object"), (0, .class_ 3)] 3

/-- java/io/Serializable -/
def k5 : Class := { plain "java/io/Serializable" (some 0) with
  accessFlags := 1537
  interfaces := #[]
  cf := some (fileOf pool5 2 #[] #[] 1537 4 #[] #[])
  fields := #[]
  methods := #[]
  instanceTypes := #[]
  staticTypes := #[]
  resolved := Array.replicate 8 none
  statics := none }

/-- the primitive byte -/
def k6 : Class := { plain "byte" none with kind := .primitive 'B', accessFlags := 0x411 }
/-- [B -/
def k7 : Class := { plain "[B" (some 0) with kind := .array 6 .byte, interfaces := #[4, 5], accessFlags := 1041 }

/-- the primitive int -/
def k8 : Class := { plain "int" none with kind := .primitive 'I', accessFlags := 0x411 }
/-- [I -/
def k9 : Class := { plain "[I" (some 0) with kind := .array 8 .int, interfaces := #[4, 5], accessFlags := 1041 }

def heap : Heap := #[]
def classes : Array Class := #[k0, k1, k2, k3, k4, k5, k6, k7, k8, k9]
def interned : List (Array UInt16 × Addr) := []
def slotsUsed : Nat := 0
def theMethod : MethodId := ⟨1, 1⟩
def args0 : Array Value := #[.long 5, .long 3]
def aboutOver (below : List Frame) : State where
  vm := { classes := classes, interned := interned.toArray }
  heap := heap
  slotsUsed := slotsUsed
  threads := #[{ frames := .invoking theMethod args0 :: below }]
def below0 : List Frame := [.native { method := ⟨0, 0⟩, args := #[] }]
def about1 : State := aboutOver below0
def p0 : Program := .bare "" "" ""
def e0 : Env := launch0.env 0 0 0
theorem w_frames : about1.frames = Frame.invoking theMethod args0 :: below0 := rfl
set_option maxRecDepth 65536 in
theorem w_args : argsFit about1.vm theMethod args0 = true := by decide +kernel
set_option maxRecDepth 65536 in
theorem w_heap : heapFits about1 = true := by decide +kernel
set_option maxRecDepth 65536 in
theorem w_runnable : about1.curStatus? = some .runnable := by decide +kernel
set_option maxRecDepth 65536 in
theorem w_alone : about1.alone = true := by decide +kernel
set_option maxRecDepth 65536 in
theorem w_named : about1.methodNamed? x = some theMethod := by decide +kernel
set_option maxRecDepth 65536 in
theorem w_hears : about1.hears theMethod below0 = true := by decide +kernel
set_option maxRecDepth 65536 in
theorem w_ripe : about1.ripe theMethod args0 below0 = true := by decide +kernel
theorem w_running : about1.status = .running := rfl
set_option maxRecDepth 65536 in
theorem w_room : about1.hasRoom e0.platform room_1 = true :=
  launch0.hasRoom_least _ room_1 (by decide +kernel) (by decide +kernel) (by decide +kernel) (by decide +kernel) (by decide +kernel) (by decide +kernel)
theorem allAtoms_all (ts : List Jvm.Cond) (a : Array Jvm.Value) (st : Jvm.State) : (allAtoms ts).before a st = ts.all (fun c => c.before a st) := by
  induction ts with
  | nil => rfl
  | cons c t ih =>
    show (Jvm.Cond.and c (allAtoms t)).before a st = _
    rw [Jvm.Cond.before_and, ih, List.all_cons]
def words1 : List Jvm.Cond := Jvm.Cond.code x code maxLocals ret :: tables_1
/-- a 'code' word, met by the world's own term for the bytes: nothing is compared byte by byte -/
theorem code_word {y : MethodName} {bytes : ByteArray} {mx : Nat} {rt : Option FieldType} {a : Array Value} {s : State} {m : MethodId} {meth : Method} {c : Code} (h1 : s.methodNamed? y = some m) (h2 : s.vm.method? m = some meth) (h3 : meth.code = some c) (h4 : c.code = bytes)
    (h5 : (c.maxLocals == mx && c.exceptionTable.isEmpty && decide (c.maxStack ≤ mostOperands) && decide (meth.sig.returnType = rt) && !meth.locks && decide (parseMethodDescriptor y.desc = some meth.sig)) = true) : (Jvm.Cond.code y bytes mx rt).before a s = true := by
  simp only [Bool.and_eq_true, beq_iff_eq, Bool.not_eq_true', decide_eq_true_eq] at h5
  obtain ⟨⟨⟨⟨⟨g1, g2⟩, g3⟩, g4⟩, g5⟩, g6⟩ := h5
  simp [Cond.before, Cond.holds, Cond.value, h1, h2, h3, h4, g1, g2, g3, g4, g5, g6]
def isCode : Jvm.Cond → Bool
  | .code _ _ _ _ => true
  | _ => false
theorem all_split {L : List Jvm.Cond} {P : Jvm.Cond → Bool} (h1 : L.all (fun c => isCode c || P c) = true) (h2 : ∀ c ∈ L.filter isCode, P c = true) : L.all P = true := by
  refine List.all_eq_true.mpr fun c hc => ?_
  have h := List.all_eq_true.mp h1 c hc
  rcases Bool.eq_false_or_eq_true (isCode c) with hi | hi
  · exact h2 c (List.mem_filter.mpr ⟨hc, hi⟩)
  · simpa [hi] using h
set_option maxRecDepth 65536 in
theorem w_c0 : (Jvm.Cond.code x code maxLocals ret).before args0 about1 = true := code_word (m := ⟨1, 1⟩) (meth := k1m1) (c := k1c1) (by decide +kernel) rfl rfl rfl (by decide +kernel)
set_option maxRecDepth 65536 in
theorem w_c1 : (Jvm.Cond.code ({ cls := "com/example/hot_coupon/hotcoupon/template/ThresholdRule", name := "of", desc := "(JJ)Lcom/example/hot_coupon/hotcoupon/template/ThresholdRule;" } : Jvm.MethodName) prog_20_method_1_code (4 : Nat) (Option.some (Jvm.ClassFile.FieldType.object "com/example/hot_coupon/hotcoupon/template/ThresholdRule"))).before args0 about1 = true := code_word (m := ⟨3, 0⟩) (meth := k3m0) (c := k3c0) (by decide +kernel) rfl rfl rfl (by decide +kernel)
set_option maxRecDepth 65536 in
theorem w_c2 : (Jvm.Cond.code ({ cls := "com/example/hot_coupon/hotcoupon/template/ThresholdRule", name := "<init>", desc := "(JJ)V" } : Jvm.MethodName) prog_20_method_2_code (5 : Nat) (Option.none : Option Jvm.ClassFile.FieldType)).before args0 about1 = true := code_word (m := ⟨3, 1⟩) (meth := k3m1) (c := k3c1) (by decide +kernel) rfl rfl rfl (by decide +kernel)
set_option maxRecDepth 65536 in
theorem w_c3 : (Jvm.Cond.code ({ cls := "com/example/hot_coupon/hotcoupon/template/DiscountRule", name := "<init>", desc := "()V" } : Jvm.MethodName) prog_13_method_1_code (1 : Nat) (Option.none : Option Jvm.ClassFile.FieldType)).before args0 about1 = true := code_word (m := ⟨2, 0⟩) (meth := k2m0) (c := k2c0) (by decide +kernel) rfl rfl rfl (by decide +kernel)
set_option maxRecDepth 65536 in
theorem w_c4 : (Jvm.Cond.code ({ cls := "java/lang/Object", name := "<init>", desc := "()V" } : Jvm.MethodName) object_method_1_code (1 : Nat) (Option.none : Option Jvm.ClassFile.FieldType)).before args0 about1 = true := code_word (m := ⟨0, 0⟩) (meth := k0m0) (c := k0c0) (by decide +kernel) rfl rfl rfl (by decide +kernel)
set_option maxRecDepth 65536 in
theorem w_c5 : (Jvm.Cond.code ({ cls := "com/example/hot_coupon/hotcoupon/template/ThresholdRule", name := "getThreshold", desc := "()J" } : Jvm.MethodName) prog_20_method_3_code (1 : Nat) (Option.some Jvm.ClassFile.FieldType.long)).before args0 about1 = true := code_word (m := ⟨3, 2⟩) (meth := k3m2) (c := k3c2) (by decide +kernel) rfl rfl rfl (by decide +kernel)
set_option maxRecDepth 65536 in
theorem w_c6 : (Jvm.Cond.code ({ cls := "com/example/hot_coupon/hotcoupon/template/ThresholdRule", name := "getSaving", desc := "()J" } : Jvm.MethodName) prog_20_method_4_code (1 : Nat) (Option.some Jvm.ClassFile.FieldType.long)).before args0 about1 = true := code_word (m := ⟨3, 3⟩) (meth := k3m3) (c := k3c3) (by decide +kernel) rfl rfl rfl (by decide +kernel)
set_option maxRecDepth 65536 in
theorem w_c7 : (Jvm.Cond.code ({ cls := "com/example/hot_coupon/hotcoupon/template/ThresholdRule", name := "equals", desc := "(Ljava/lang/Object;)Z" } : Jvm.MethodName) prog_20_method_5_code (3 : Nat) (Option.some Jvm.ClassFile.FieldType.boolean)).before args0 about1 = true := code_word (m := ⟨3, 4⟩) (meth := k3m4) (c := k3c4) (by decide +kernel) rfl rfl rfl (by decide +kernel)
def codes1 : List Jvm.Cond := [Jvm.Cond.code x code maxLocals ret, Jvm.Cond.code ({ cls := "com/example/hot_coupon/hotcoupon/template/ThresholdRule", name := "of", desc := "(JJ)Lcom/example/hot_coupon/hotcoupon/template/ThresholdRule;" } : Jvm.MethodName) prog_20_method_1_code (4 : Nat) (Option.some (Jvm.ClassFile.FieldType.object "com/example/hot_coupon/hotcoupon/template/ThresholdRule")), Jvm.Cond.code ({ cls := "com/example/hot_coupon/hotcoupon/template/ThresholdRule", name := "<init>", desc := "(JJ)V" } : Jvm.MethodName) prog_20_method_2_code (5 : Nat) (Option.none : Option Jvm.ClassFile.FieldType), Jvm.Cond.code ({ cls := "com/example/hot_coupon/hotcoupon/template/DiscountRule", name := "<init>", desc := "()V" } : Jvm.MethodName) prog_13_method_1_code (1 : Nat) (Option.none : Option Jvm.ClassFile.FieldType), Jvm.Cond.code ({ cls := "java/lang/Object", name := "<init>", desc := "()V" } : Jvm.MethodName) object_method_1_code (1 : Nat) (Option.none : Option Jvm.ClassFile.FieldType), Jvm.Cond.code ({ cls := "com/example/hot_coupon/hotcoupon/template/ThresholdRule", name := "getThreshold", desc := "()J" } : Jvm.MethodName) prog_20_method_3_code (1 : Nat) (Option.some Jvm.ClassFile.FieldType.long), Jvm.Cond.code ({ cls := "com/example/hot_coupon/hotcoupon/template/ThresholdRule", name := "getSaving", desc := "()J" } : Jvm.MethodName) prog_20_method_4_code (1 : Nat) (Option.some Jvm.ClassFile.FieldType.long), Jvm.Cond.code ({ cls := "com/example/hot_coupon/hotcoupon/template/ThresholdRule", name := "equals", desc := "(Ljava/lang/Object;)Z" } : Jvm.MethodName) prog_20_method_5_code (3 : Nat) (Option.some Jvm.ClassFile.FieldType.boolean)]
set_option maxRecDepth 65536 in
theorem codes_eq : words1.filter isCode = codes1 := rfl
theorem w_codes : ∀ c ∈ words1.filter isCode, c.before args0 about1 = true := by
  rw [codes_eq]
  intro c hc
  simp only [codes1, List.mem_cons, List.not_mem_nil, or_false] at hc
  rcases hc with rfl | rfl | rfl | rfl | rfl | rfl | rfl | rfl
  · exact w_c0
  · exact w_c1
  · exact w_c2
  · exact w_c3
  · exact w_c4
  · exact w_c5
  · exact w_c6
  · exact w_c7
set_option maxRecDepth 65536 in
theorem w_t1 : (words1.take 24).all (fun c => isCode c || c.before args0 about1) = true := by decide +kernel
set_option maxRecDepth 65536 in
theorem w_t2 : (words1.drop 24).all (fun c => isCode c || c.before args0 about1) = true := by decide +kernel
theorem w_tables : (allAtoms (Jvm.Cond.code x code maxLocals ret :: tables_1)).before args0 about1 = true := by
  rw [allAtoms_all]
  show words1.all (fun c => c.before args0 about1) = true
  refine all_split ?_ w_codes
  rw [← List.take_append_drop 24 words1, List.all_append, w_t1, w_t2]
  rfl
set_option maxRecDepth 65536 in
theorem w_case : (Jvm.Cond.and given_1 narrow_1).before args0 about1 = true := by decide +kernel
theorem w_applies : (headSpec (Jvm.Cond.code x code maxLocals ret :: tables_1) room_1).applies x e0.platform about1 = true :=
  (Spec.applies_iff w_frames).mpr ⟨w_running, w_runnable, w_alone, w_named, w_hears, w_ripe, w_room, w_tables⟩
theorem atStart : AtStart classFile x code maxLocals ret World_1 tables_1 room_1 Calls_1 rest_1 Pre_1 launch0 p0 e0 about1 theMethod args0 below0 :=
  ⟨lists_1, trivial, launch0.admits_env _ _ _, launch0.least_env, fairChoices_fair.cas, fairChoices_fair.clock, w_frames, w_args, w_heap, w_applies, trivial, trivial, w_case⟩
end start1
theorem witness_1 : WitnessClaimed_1 := ⟨start1.p0, start1.e0, start1.about1, start1.theMethod, start1.args0, start1.below0, start1.atStart⟩
end Jvm.Pilot.@@N@@
