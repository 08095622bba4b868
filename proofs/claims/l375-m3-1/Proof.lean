import JvmDerived
import JvmDerived.Pilot.@@N@@Statement
import JvmDerived.Pilot.@@N@@Code
set_option linter.unusedVariables false
set_option linter.unusedSimpArgs false
namespace Jvm.Pilot.@@N@@
open Jvm Jvm.ClassFile Sem Op Lib Jvm.Free Jvm.Stand Jvm.LawKit Jvm.RoadKit Bundle Jvm.Pilot.@@N@@.Jvm.D
section Own
variable {p : Program} {l : Launch} {e : Env} {R : Room} {s : State} {m : MethodId} {args : Array Value} {below : List Frame} {meth : Method} {c : Code} {T T0 T1 : State} {g0 g1 : JFrame} {locs : List Loc} {cells slots : Nat} {Z : State} {h h' h0 : Heap} {a b : Nat}
/-- the run goes from T0 with the frame g0 to a state of which P holds -/
def Goes (p : Program) (l : Launch) (e : Env) (R : Room) (s : State) (m : MethodId) (args : Array Value) (below : List Frame) (meth : Method) (c : Code) (T0 : State) (g0 : JFrame) (P : State → List Loc → Nat → Nat → JFrame → Prop) : Prop :=
  ∃ T' L' k' n' g', Stand p l e R s m args below meth c T' L' k' n' ∧ P T' L' k' n' g' ∧ ∀ t, Steps p.tables e below (T'.setTop g') t → Steps p.tables e below (T0.setTop g0) t
variable {P Q : State → List Loc → Nat → Nat → JFrame → Prop}
theorem own_st (st : ∀ t, Steps p.tables e below (T1.setTop g1) t → Steps p.tables e below (T0.setTop g0) t) (k : Goes p l e R s m args below meth c T1 g1 P) : Goes p l e R s m args below meth c T0 g0 P := by
  obtain ⟨T', L', k', n', g', X, hP, q⟩ := k
  exact ⟨T', L', k', n', g', X, hP, fun t r => st t (q t r)⟩
theorem own_here (X : Stand p l e R s m args below meth c T0 locs cells slots) (hP : P T0 locs cells slots g0) : Goes p l e R s m args below meth c T0 g0 P :=
  ⟨T0, locs, cells, slots, g0, X, hP, fun _ r => r⟩
theorem own_bind (k : Goes p l e R s m args below meth c T0 g0 P) (q : ∀ T' L' k' n' g', Stand p l e R s m args below meth c T' L' k' n' → P T' L' k' n' g' → Goes p l e R s m args below meth c T' g' Q) : Goes p l e R s m args below meth c T0 g0 Q := by
  obtain ⟨T', L', k', n', g', X, hP, st⟩ := k
  exact own_st st (q T' L' k' n' g' X hP)
theorem own_cast (q : g0 = g1) (k : Goes p l e R s m args below meth c T0 g1 P) : Goes p l e R s m args below meth c T0 g0 P := by subst q; exact k
/-- the frame stands before a return of nothing -/
def EndV (m : MethodId) (c : Code) (K N : Nat) (Q : Option Value → Heap → List Loc → Prop) (T : State) (L : List Loc) (k n : Nat) (g : JFrame) : Prop := ∃ pc Ls, g = mkF m pc Ls [] ∧ decode c.code pc = .ok (.return_, 1) ∧ k ≤ K ∧ n ≤ N ∧ Q none T.heap L
/-- the frame stands before the return of an int of the kind t -/
def EndN (m : MethodId) (c : Code) (t : FieldType) (K N : Nat) (Q : Option Value → Heap → List Loc → Prop) (T : State) (L : List Loc) (k n : Nat) (g : JFrame) : Prop := ∃ pc Ls z, g = mkF m pc Ls [.int z] ∧ decode c.code pc = .ok (.ireturn, 1) ∧ narrow t (.int z) = .int z ∧ k ≤ K ∧ n ≤ N ∧ Q (some (.int z)) T.heap L
def EndJ (m : MethodId) (c : Code) (K N : Nat) (Q : Option Value → Heap → List Loc → Prop) (T : State) (L : List Loc) (k n : Nat) (g : JFrame) : Prop := ∃ pc Ls z, g = mkF m pc Ls [.long z] ∧ decode c.code pc = .ok (.lreturn, 1) ∧ k ≤ K ∧ n ≤ N ∧ Q (some (.long z)) T.heap L
def EndA (m : MethodId) (c : Code) (K N : Nat) (Q : Option Value → Heap → List Loc → Prop) (T : State) (L : List Loc) (k n : Nat) (g : JFrame) : Prop := ∃ pc Ls z, g = mkF m pc Ls [.ref z] ∧ decode c.code pc = .ok (.areturn, 1) ∧ k ≤ K ∧ n ≤ N ∧ Q (some (.ref z)) T.heap L
theorem own_finV {K N : Nat} {Q : Option Value → Heap → List Loc → Prop} (hx : p.tables.exec = Jvm.exec) (hret : meth.sig.returnType = none) (hlk : meth.locks = false) (G : Goes p l e R s m args below meth c T0 g0 (EndV m c K N Q)) :
    ∃ s₂ o, Steps p.tables e below (T0.setTop g0) s₂ ∧ s₂.status = .running ∧ Ended s₂ below o ∧ ∃ v L, o = .returned v ∧ Q v s₂.heap L ∧ FrameEnd s o s₂ L K N := by
  obtain ⟨T', L', k', n', g', X, ⟨pc, Ls, rfl, hd, hk, hn, hQ⟩, st⟩ := G
  obtain ⟨fs, hr, hrun, hended, hW, hsame⟩ := X.leave (v := none) (fun _ => rfl) hlk
  exact ⟨_, _, st _ (X.returnOut hx hret hd hr), hrun, hended, _, _, rfl, hQ, ⟨_, rfl⟩, hW, hsame.mono hk hn⟩
theorem own_finN {t : FieldType} {K N : Nat} {Q : Option Value → Heap → List Loc → Prop} (hti : t = .int ∨ t = .boolean ∨ t = .byte ∨ t = .char ∨ t = .short) (hx : p.tables.exec = Jvm.exec) (hret : meth.sig.returnType = some t) (hlk : meth.locks = false) (G : Goes p l e R s m args below meth c T0 g0 (EndN m c t K N Q)) :
    ∃ s₂ o, Steps p.tables e below (T0.setTop g0) s₂ ∧ s₂.status = .running ∧ Ended s₂ below o ∧ ∃ v L, o = .returned v ∧ Q v s₂.heap L ∧ FrameEnd s o s₂ L K N := by
  obtain ⟨T', L', k', n', g', X, ⟨pc, Ls, z, rfl, hd, hz, hk, hn, hQ⟩, st⟩ := G
  obtain ⟨fs, hr, hrun, hended, hW, hsame⟩ := X.leave (v := some (.int z)) (fun h => by rw [hret] at h; cases h) hlk
  exact ⟨_, _, st _ (X.ireturnOut hx hret hz hti hd hr), hrun, hended, _, _, rfl, hQ, ⟨_, rfl⟩, hW, hsame.mono hk hn⟩
theorem own_finJ {K N : Nat} {Q : Option Value → Heap → List Loc → Prop} (hx : p.tables.exec = Jvm.exec) (hret : meth.sig.returnType = some .long) (hlk : meth.locks = false) (G : Goes p l e R s m args below meth c T0 g0 (EndJ m c K N Q)) :
    ∃ s₂ o, Steps p.tables e below (T0.setTop g0) s₂ ∧ s₂.status = .running ∧ Ended s₂ below o ∧ ∃ v L, o = .returned v ∧ Q v s₂.heap L ∧ FrameEnd s o s₂ L K N := by
  obtain ⟨T', L', k', n', g', X, ⟨pc, Ls, z, rfl, hd, hk, hn, hQ⟩, st⟩ := G
  obtain ⟨fs, hr, hrun, hended, hW, hsame⟩ := X.leave (v := some (.long z)) (fun h => by rw [hret] at h; cases h) hlk
  exact ⟨_, _, st _ (X.lreturnOut hx hret hd hr), hrun, hended, _, _, rfl, hQ, ⟨_, rfl⟩, hW, hsame.mono hk hn⟩
theorem own_finA {t : FieldType} {K N : Nat} {Q : Option Value → Heap → List Loc → Prop} (ht : t.isReference = true) (hx : p.tables.exec = Jvm.exec) (hret : meth.sig.returnType = some t) (hlk : meth.locks = false) (G : Goes p l e R s m args below meth c T0 g0 (EndA m c K N Q)) :
    ∃ s₂ o, Steps p.tables e below (T0.setTop g0) s₂ ∧ s₂.status = .running ∧ Ended s₂ below o ∧ ∃ v L, o = .returned v ∧ Q v s₂.heap L ∧ FrameEnd s o s₂ L K N := by
  obtain ⟨T', L', k', n', g', X, ⟨pc, Ls, z, rfl, hd, hk, hn, hQ⟩, st⟩ := G
  obtain ⟨fs, hr, hrun, hended, hW, hsame⟩ := X.leave (v := some (.ref z)) (fun h => by rw [hret] at h; cases h) hlk
  exact ⟨_, _, st _ (X.areturnOut hx rfl hret ht hd hr), hrun, hended, _, _, rfl, hQ, ⟨_, rfl⟩, hW, hsame.mono hk hn⟩
/-- a method's contract -/
abbrev Meets (l : Launch) (Z : State) (y : MethodName) (bytes : ByteArray) (maxL : Nat) (ret : Option FieldType) (ws : List Jvm.Cond) (rm : Room) (A : Array Value) (h0 : Heap) (K N : Nat) (Q : Option Value → Heap → List Loc → Prop) : Prop :=
  MetFree l y (head1 (Jvm.Cond.code y bytes maxL ret :: ws) rm) (fun a U => a = A ∧ Z.Warmed39 U.vm ∧ U.heap = h0) (fun _ _ _ _ _ => True) (fun _ U o U' => ∃ v L, o = .returned v ∧ Q v U'.heap L ∧ FrameEnd U o U' L K N)
theorem own_meets {y : MethodName} {bytes : ByteArray} {maxL K N : Nat} {ret : Option FieldType} {ws : List Jvm.Cond} {rm : Room} {A : Array Value} {Q : Option Value → Heap → List Loc → Prop} (hp : plainFor y = true)
    (body : ∀ p e s m below meth c s₁, p.tables.exec = Jvm.exec → Z.Warmed39 s.vm → c.code = bytes → c.maxLocals = maxL → s.vm.findClass y.cls = some m.cls → meth.name = y.name → meth.sig.returnType = ret → meth.locks = false → Stand p l e rm s m A below meth c s₁ [] 0 0 → s₁.heap = h0 →
      ∃ s₂ o, Steps p.tables e below (s₁.setTop (entryFrame m A maxL)) s₂ ∧ s₂.status = .running ∧ Ended s₂ below o ∧ ∃ v L, o = .returned v ∧ Q v s₂.heap L ∧ FrameEnd s o s₂ L K N) : Meets l Z y bytes maxL ret ws rm A h0 K N Q := by
  refine MetFree.of_bodySF hp hisR ?_
  intro p e s m args below meth c s₁ Bd hml0 hP hK
  obtain ⟨rfl, hZ, hh⟩ := hP
  exact body p e s m below meth c s₁ Bd.exec hZ Bd.bytes hml0 (findClass_of_methodNamed Bd.named) (name_of_methodNamed Bd.named Bd.method).1 Bd.returns Bd.notSynchronized (Stand.of_body Bd) (by rw [← hh, Bd.state]; rfl)
theorem own_fl {C n d : String} {v : Value} (F : Fld Z h a C n d v) : @LT.lt Nat _ a h.size := F.lt
theorem own_el {C : String} (F : Exa Z h a C) : @LT.lt Nat _ a h.size := F.lt
/-- the array at a holds the n values f 0, f 1 .. -/
def VA (Z : State) (h : Heap) (a : Nat) (ty : FieldType) (n : Nat) (f : Nat → Value) : Prop := ∃ cl : Cell, Arr Z h a cl ty ∧ cl.slots.size = n ∧ ∀ j, j < n → cl.slots[j]? = some (f j)
variable {ty : FieldType} {n : Nat} {f : Nat → Value}
theorem VA.lt (A : VA Z h a ty n f) : @LT.lt Nat _ a h.size := by obtain ⟨cl, A, -⟩ := A; exact A.lt
theorem VA.ext (A : VA Z h a ty n f) (E : Ext h h') : VA Z h' a ty n f := by obtain ⟨cl, A, r⟩ := A; exact ⟨cl, A.ext E, r⟩
theorem VA.other {sl : Nat} {v : Value} (A : VA Z h b ty n f) (W : Wr h h' a sl v) (q : b ≠ a) : VA Z h' b ty n f := by obtain ⟨cl, A, r⟩ := A; exact ⟨cl, A.other W q, r⟩
theorem VA.keep {ws : List Addr} (A : VA Z h a ty n f) (K : Keep h h' ws) (q : a ∉ ws) : VA Z h' a ty n f := by obtain ⟨cl, A, r⟩ := A; exact ⟨cl, ⟨K.2.1 a cl A.1 q, A.2⟩, r⟩
theorem VA.congr {f' : Nat → Value} (A : VA Z h a ty n f) (q : ∀ j, j < n → f j = f' j) : VA Z h a ty n f' := by obtain ⟨cl, A, S, H⟩ := A; exact ⟨cl, A, S, fun j hj => by rw [← q j hj]; exact H j hj⟩
theorem own_slots (cl : Cell) (i : Nat) (v : Value) : (cl.setSlot i v).slots = cl.slots.setIfInBounds i v := rfl
theorem VA.set {i : Nat} {v : Value} (A : VA Z h a ty n f) (W : Wr h h' a i v) : VA Z h' a ty n (fun j => if j = i then v else f j) := by
  obtain ⟨cl, A, S, H⟩ := A
  refine ⟨_, A.same W, by rw [sz_set]; exact S, fun j hj => ?_⟩
  rw [own_slots]
  show _ = some (if j = i then v else f j)
  by_cases u : i = j
  · subst u; rw [if_pos rfl, Array.getElem?_setIfInBounds_self_of_lt (by rw [S]; exact hj)]
  · rw [if_neg (fun q => u q.symm), Array.getElem?_setIfInBounds_ne u]; exact H j hj
theorem own_newslots (k : ClassId) (ty : FieldType) (z : Int32) : (newA k ty z).slots = Array.replicate z.toNatClampNeg (defaultValue ty) := rfl
theorem VA.new {k : ClassId} {z : Int32} (A : Arr Z h a (newA k ty z) ty) (hn : z.toNatClampNeg = n) : VA Z h a ty n (fun _ => defaultValue ty) := by
  refine ⟨_, A, by rw [sz_new, hn], fun j hj => ?_⟩
  rw [own_newslots, hn, Array.getElem?_replicate, if_pos hj]
/-- place i of f turned to x -/
def upd {α : Type} (f : Nat → α) (i : Nat) (x : α) (j : Nat) : α := if j = i then x else f j
theorem VA.setI {i : Nat} {x : Int32} {f : Nat → Int32} (A : VA Z h a ty n (fun j => .int (f j))) (W : Wr h h' a i (.int x)) : VA Z h' a ty n (fun j => .int (upd f i x j)) :=
  (A.set W).congr fun j _ => by simp only [upd]; split <;> rfl
theorem VA.setJ {i : Nat} {x : Int64} {f : Nat → Int64} (A : VA Z h a ty n (fun j => .long (f j))) (W : Wr h h' a i (.long x)) : VA Z h' a ty n (fun j => .long (upd f i x j)) :=
  (A.set W).congr fun j _ => by simp only [upd]; split <;> rfl
theorem own_nn {j : Nat} (hj : j < 2147483648) : ¬ Int32.ofNat j < 0 := by
  rw [Int32.lt_iff_toInt_lt, Int32.toInt_ofNat_of_lt hj, show (0 : Int32).toInt = 0 from rfl]; omega
theorem own_n32 {j : Nat} (hj : j < 2147483648) : (Int32.ofNat j).toNatClampNeg = j := by
  rw [Int32.toNatClampNeg, Int32.toInt_ofNat_of_lt hj]; rfl
theorem own_lt {i j : Nat} (hi : i < 2147483648) (hj : j < 2147483648) : Int32.ofNat i < Int32.ofNat j ↔ i < j := by
  rw [Int32.lt_iff_toInt_lt, Int32.toInt_ofNat_of_lt hi, Int32.toInt_ofNat_of_lt hj]; omega
theorem own_eq {i j : Nat} (hi : i < 2147483648) (hj : j < 2147483648) : Int32.ofNat i = Int32.ofNat j ↔ i = j := by
  rw [← Int32.toInt_inj, Int32.toInt_ofNat_of_lt hi, Int32.toInt_ofNat_of_lt hj]; omega
theorem own_in {i : Int32} {j k : Nat} (hi : i = Int32.ofNat j) (hj : j < k) (hb : k ≤ 2147483648) : ¬ (i < 0 ∨ k ≤ i.toNatClampNeg) := by
  subst hi; rw [own_n32 (by omega)]; exact fun q => q.elim (own_nn (by omega)) (fun q => by omega)
theorem own_len (X : Stand p l e R s m args below meth c T locs cells slots) (hx : p.tables.exec = Jvm.exec) (hZ : Z.Warmed39 s.vm) (eT : T.heap = h) (A : VA Z h a ty n f) {N : Int32} (hN : N = Int32.ofNat n) {g : JFrame} (hg : g.method = m) {rest : List Value} (hs : g.stack = .ref a :: rest) (hd : decode c.code g.pc = .ok (.arraylength, 1)) :
    ∀ t, Steps p.tables e below (T.setTop { g with pc := g.pc + 1, stack := .int N :: rest }) t → Steps p.tables e below (T.setTop g) t := by
  obtain ⟨cl, A, S, H⟩ := A
  intro t k
  refine X.arraylength hx (by rw [eT]; exact A.1) (State.isArrayOf_alike hZ.alike A.2.1) hg hs hd _ ?_
  rw [S, show n.toInt32 = N from hN.symm]
  exact k
theorem own_ild (X : Stand p l e R s m args below meth c T locs cells slots) (hx : p.tables.exec = Jvm.exec) (hZ : Z.Warmed39 s.vm) (eT : T.heap = h) (A : VA Z h a .int n f) {i : Int32} {j : Nat} {v : Value} (hi : i = Int32.ofNat j) (hj : j < n) (hb : n ≤ 2147483648) (hv : f j = v) {g : JFrame} (hg : g.method = m) {rest : List Value} (hs : g.stack = .int i :: .ref a :: rest) (hd : decode c.code g.pc = .ok (.iaload, 1)) :
    ∀ t, Steps p.tables e below (T.setTop { g with pc := g.pc + 1, stack := v :: rest }) t → Steps p.tables e below (T.setTop g) t := by
  obtain ⟨cl, A, S, H⟩ := A
  exact X.iaload hx (by rw [eT]; exact A.1) (State.isArrayOf_alike hZ.alike A.2.1) A.2.2 (by rw [S]; exact own_in hi hj hb) (by rw [hi, own_n32 (by omega), H j hj, hv]) hg hs hd
theorem own_jld (X : Stand p l e R s m args below meth c T locs cells slots) (hx : p.tables.exec = Jvm.exec) (hZ : Z.Warmed39 s.vm) (eT : T.heap = h) (A : VA Z h a .long n f) {i : Int32} {j : Nat} {v : Value} (hi : i = Int32.ofNat j) (hj : j < n) (hb : n ≤ 2147483648) (hv : f j = v) {g : JFrame} (hg : g.method = m) {rest : List Value} (hs : g.stack = .int i :: .ref a :: rest) (hd : decode c.code g.pc = .ok (.laload, 1)) :
    ∀ t, Steps p.tables e below (T.setTop { g with pc := g.pc + 1, stack := v :: rest }) t → Steps p.tables e below (T.setTop g) t := by
  obtain ⟨cl, A, S, H⟩ := A
  exact X.laload hx (by rw [eT]; exact A.1) (State.isArrayOf_alike hZ.alike A.2.1) A.2.2 (by rw [S]; exact own_in hi hj hb) (by rw [hi, own_n32 (by omega), H j hj, hv]) hg hs hd
theorem own_cld (X : Stand p l e R s m args below meth c T locs cells slots) (hx : p.tables.exec = Jvm.exec) (hZ : Z.Warmed39 s.vm) (eT : T.heap = h) (A : VA Z h a .char n f) {i : Int32} {j : Nat} {v : Value} (hi : i = Int32.ofNat j) (hj : j < n) (hb : n ≤ 2147483648) (hv : f j = v) {g : JFrame} (hg : g.method = m) {rest : List Value} (hs : g.stack = .int i :: .ref a :: rest) (hd : decode c.code g.pc = .ok (.caload, 1)) :
    ∀ t, Steps p.tables e below (T.setTop { g with pc := g.pc + 1, stack := v :: rest }) t → Steps p.tables e below (T.setTop g) t := by
  obtain ⟨cl, A, S, H⟩ := A
  exact X.caload hx (by rw [eT]; exact A.1) (State.isArrayOf_alike hZ.alike A.2.1) A.2.2 (by rw [S]; exact own_in hi hj hb) (by rw [hi, own_n32 (by omega), H j hj, hv]) hg hs hd
theorem own_bld (X : Stand p l e R s m args below meth c T locs cells slots) (hx : p.tables.exec = Jvm.exec) (hZ : Z.Warmed39 s.vm) (eT : T.heap = h) (A : VA Z h a .byte n f) {i : Int32} {j : Nat} {v : Value} (hi : i = Int32.ofNat j) (hj : j < n) (hb : n ≤ 2147483648) (hv : f j = v) {g : JFrame} (hg : g.method = m) {rest : List Value} (hs : g.stack = .int i :: .ref a :: rest) (hd : decode c.code g.pc = .ok (.baload, 1)) :
    ∀ t, Steps p.tables e below (T.setTop { g with pc := g.pc + 1, stack := v :: rest }) t → Steps p.tables e below (T.setTop g) t := by
  obtain ⟨cl, A, S, H⟩ := A
  exact X.baloadBytes hx (by rw [eT]; exact A.1) (State.isArrayOf_alike hZ.alike A.2.1) A.2.2 (by rw [S]; exact own_in hi hj hb) (by rw [hi, own_n32 (by omega), H j hj, hv]) hg hs hd
theorem own_ist (X : Stand p l e R s m args below meth c T locs cells slots) (hx : p.tables.exec = Jvm.exec) (hZ : Z.Warmed39 s.vm) (eT : T.heap = h) (A : VA Z h a .int n f) {i x : Int32} {j : Nat} (hi : i = Int32.ofNat j) (hj : j < n) (hb : n ≤ 2147483648) {g : JFrame} (hg : g.method = m) {rest : List Value} (hs : g.stack = .int x :: .int i :: .ref a :: rest) (hd : decode c.code g.pc = .ok (.iastore, 1)) :
    ∃ T' h', Stand p l e R s m args below meth c T' (locs ++ [⟨a, j⟩]) cells slots ∧ T'.heap = h' ∧ Wr h h' a j (.int x) ∧ ∀ t, Steps p.tables e below (T'.setTop { g with pc := g.pc + 1, stack := rest }) t → Steps p.tables e below (T.setTop g) t := by
  obtain ⟨cl, A, S, H⟩ := A
  have q := stI X hx hZ eT A (by rw [S]; exact own_in hi hj hb) hg hs hd
  rw [hi, own_n32 (by omega)] at q
  exact q
theorem own_jst (X : Stand p l e R s m args below meth c T locs cells slots) (hx : p.tables.exec = Jvm.exec) (hZ : Z.Warmed39 s.vm) (eT : T.heap = h) (A : VA Z h a .long n f) {i : Int32} {x : Int64} {j : Nat} (hi : i = Int32.ofNat j) (hj : j < n) (hb : n ≤ 2147483648) {g : JFrame} (hg : g.method = m) {rest : List Value} (hs : g.stack = .long x :: .int i :: .ref a :: rest) (hd : decode c.code g.pc = .ok (.lastore, 1)) :
    ∃ T' h', Stand p l e R s m args below meth c T' (locs ++ [⟨a, j⟩]) cells slots ∧ T'.heap = h' ∧ Wr h h' a j (.long x) ∧ ∀ t, Steps p.tables e below (T'.setTop { g with pc := g.pc + 1, stack := rest }) t → Steps p.tables e below (T.setTop g) t := by
  obtain ⟨cl, A, S, H⟩ := A
  have q := stJ X hx hZ eT A (by rw [S]; exact own_in hi hj hb) hg hs hd
  rw [hi, own_n32 (by omega)] at q
  exact q
theorem own_cst (X : Stand p l e R s m args below meth c T locs cells slots) (hx : p.tables.exec = Jvm.exec) (hZ : Z.Warmed39 s.vm) (eT : T.heap = h) (A : VA Z h a .char n f) {i x : Int32} {j : Nat} (hi : i = Int32.ofNat j) (hj : j < n) (hb : n ≤ 2147483648) {g : JFrame} (hg : g.method = m) {rest : List Value} (hs : g.stack = .int x :: .int i :: .ref a :: rest) (hd : decode c.code g.pc = .ok (.castore, 1)) :
    ∃ T' h', Stand p l e R s m args below meth c T' (locs ++ [⟨a, j⟩]) cells slots ∧ T'.heap = h' ∧ Wr h h' a j (.int (nar .char x)) ∧ ∀ t, Steps p.tables e below (T'.setTop { g with pc := g.pc + 1, stack := rest }) t → Steps p.tables e below (T.setTop g) t := by
  obtain ⟨cl, A, S, H⟩ := A
  have q := stC X hx hZ eT A (by rw [S]; exact own_in hi hj hb) hg hs hd
  rw [hi, own_n32 (by omega)] at q
  exact q
theorem own_bst (X : Stand p l e R s m args below meth c T locs cells slots) (hx : p.tables.exec = Jvm.exec) (hZ : Z.Warmed39 s.vm) (eT : T.heap = h) (A : VA Z h a .byte n f) {i x : Int32} {j : Nat} (hi : i = Int32.ofNat j) (hj : j < n) (hb : n ≤ 2147483648) {g : JFrame} (hg : g.method = m) {rest : List Value} (hs : g.stack = .int x :: .int i :: .ref a :: rest) (hd : decode c.code g.pc = .ok (.bastore, 1)) :
    ∃ T' h', Stand p l e R s m args below meth c T' (locs ++ [⟨a, j⟩]) cells slots ∧ T'.heap = h' ∧ Wr h h' a j (.int (nar .byte x)) ∧ ∀ t, Steps p.tables e below (T'.setTop { g with pc := g.pc + 1, stack := rest }) t → Steps p.tables e below (T.setTop g) t := by
  obtain ⟨cl, A, S, H⟩ := A
  have q := stB X hx hZ eT A (by rw [S]; exact own_in hi hj hb) hg hs hd
  rw [hi, own_n32 (by omega)] at q
  exact q
end Own
def own_cm (n : Nat) (x : Int32) : Int32 := if n = 1 ∧ x = 1 then 1 else 0
theorem own_mask3 (x : Int32) : (x &&& (3 : Int32)) = 0 ∨ (x &&& (3 : Int32)) = 1 ∨ (x &&& (3 : Int32)) = 2 ∨ (x &&& (3 : Int32)) = 3 := by
  have h := c_and x 3 (by decide)
  have h0 : (0 : Int32).toInt = 0 := by decide
  have h1 : (1 : Int32).toInt = 1 := by decide
  have h2 : (2 : Int32).toInt = 2 := by decide
  have h3 : (3 : Int32).toInt = 3 := by decide
  simp only [← Int32.toInt_inj]; omega
theorem own_byte (x : Int32) : nar .byte x.toInt8.toInt32 = 1 ↔ (x &&& (255 : Int32)) = 1 := by
  show x.toInt8.toInt32.toInt8.toInt32 = 1 ↔ _
  have h1 := c_i2b x
  have h2 := c_i2b x.toInt8.toInt32
  have h3 := c_mask x 255 8 (by decide) (by decide)
  have h4 : (1 : Int32).toInt = 1 := by decide
  simp only [← Int32.toInt_inj]; omega
theorem d1_0 : decode prog_29_method_3_code 0 = .ok (.iconst 1, 1) := by decide +kernel
theorem d1_1 : decode prog_29_method_3_code 1 = .ok (.newarray .byte, 2) := by decide +kernel
theorem d1_3 : decode prog_29_method_3_code 3 = .ok (.dup, 1) := by decide +kernel
theorem d1_4 : decode prog_29_method_3_code 4 = .ok (.iconst 0, 1) := by decide +kernel
theorem d1_5 : decode prog_29_method_3_code 5 = .ok (.iload_n 0, 1) := by decide +kernel
theorem d1_6 : decode prog_29_method_3_code 6 = .ok (.ifCond .eq 7, 3) := by decide +kernel
theorem d1_9 : decode prog_29_method_3_code 9 = .ok (.iconst 1, 1) := by decide +kernel
theorem d1_10 : decode prog_29_method_3_code 10 = .ok (.goto 4, 3) := by decide +kernel
theorem d1_13 : decode prog_29_method_3_code 13 = .ok (.iconst 2, 1) := by decide +kernel
theorem d1_14 : decode prog_29_method_3_code 14 = .ok (.bastore, 1) := by decide +kernel
theorem d1_15 : decode prog_29_method_3_code 15 = .ok (.areturn, 1) := by decide +kernel
theorem pn_1 : plainName "com/example/concordat/concordat/kv/Commit" = true := by first | (simp [plainName, overriddenIn]; done) | decide +kernel
theorem ef_1 (m : MethodId) (x0 : Int32) : entryFrame m #[(.int x0)] 1 = mkF m 0 #[.val (.int x0)] [] := by first | (simp [entryFrame, mkF, argsToLocals, Value.category]; done) | rfl
def Q1 (Z : State) (z : Int32) (h0 : Heap) (n0 : Nat) (v : Option Value) (h : Heap) (L : List Loc) : Prop := ∃ b : Nat, v = some (.ref b) ∧ Fr n0 L ∧ n0 ≤ b ∧ Keep h0 h [] ∧ VA Z h b .byte 1 (fun _ => .int (if z = 0 then 2 else 1))
set_option maxRecDepth 65536 in
set_option maxHeartbeats 40000000 in
theorem rm1 (l : Launch) (Z : State) (a0 : Array Value) (hw : ∀ d ∈ tables_1, d.before a0 Z = true) (ws : List Jvm.Cond) (z : Int32) (h0 : Heap) (n0 : Nat) (Z0 : n0 ≤ h0.size) :
    Meets l Z (⟨"com/example/concordat/concordat/kv/Commit", "result", "(Z)[B"⟩ : MethodName) prog_29_method_3_code 1 (some (.array .byte)) ws ({ frames := 0, cells := 1, slots := 1, locals := 0 } : Room) #[(.int z)] h0 1 1 (Q1 Z z h0 n0) := by
  refine own_meets (plainFor_of_name pn_1) ?_
  intro p e s m below meth c s₁ hx hZ hby hml hown hnm hret hlk X0 e0
  have hown : s.vm.findClass "com/example/concordat/concordat/kv/Commit" = some m.cls := hown
  have hnm : meth.name = "result" := hnm
  refine own_finA (l := l) (R := ({ frames := 0, cells := 1, slots := 1, locals := 0 } : Room)) (m := m) (args := #[(.int z)]) (c := c) rfl hx hret hlk ?_
  refine own_cast (ef_1 m z) ?_
  refine own_st (g1 := (mkF m 1 #[.val (.int z)] [(.int (1 : Int32))])) (fun t k => XS.iconst X0.here hx rfl (hb hby d1_0) k) ?_
  obtain ⟨T1, h1, k1, X1, e1, E1, A1, st1⟩ := newP X0 hx hZ (hw _ (List.mem_of_getElem? (i := 0) rfl)) e0 (g := (mkF m 1 #[.val (.int z)] [(.int (1 : Int32))])) rfl (hb hby d1_1) rfl (by decide) (cap := 1) (by decide) (by decide) (by decide) (by decide)
  obtain ⟨b1, g1⟩ : ∃ z, z = h0.size := ⟨_, rfl⟩
  rw [← g1] at A1 st1
  refine own_st (g1 := (mkF m 3 #[.val (.int z)] [(.ref b1)])) (st1) ?_
  have V1 : VA Z h1 b1 .byte 1 (fun _ => .int (0 : Int32)) := VA.new A1 rfl
  have gb : n0 ≤ b1 := by omega
  have K1 : Keep h0 h1 [] := (Keep.refl h0 []).ext E1
  refine own_st (g1 := (mkF m 4 #[.val (.int z)] [(.ref b1), (.ref b1)])) (fun t k => XS.dup X1.here hx rfl (hb hby d1_3) rfl rfl k) ?_
  refine own_st (g1 := (mkF m 5 #[.val (.int z)] [(.int (0 : Int32)), (.ref b1), (.ref b1)])) (fun t k => XS.iconst X1.here hx rfl (hb hby d1_4) k) ?_
  refine own_st (g1 := (mkF m 6 #[.val (.int z)] [(.int z), (.int (0 : Int32)), (.ref b1), (.ref b1)])) (fun t k => XS.iloadN X1.here hx rfl (hb hby d1_5) rfl k) ?_
  by_cases hz : z = (0 : Int32)
  · refine own_st (g1 := (mkF m 13 #[.val (.int z)] [(.int (0 : Int32)), (.ref b1), (.ref b1)])) (fun t k => XS.ifYes X1.here hx rfl (pc0 := 6) (pc' := 13) rfl (hb hby d1_6) rfl ((if0 _ _).trans (teq hz).1) (by decide) (by decide) k) ?_
    refine own_st (g1 := (mkF m 14 #[.val (.int z)] [(.int (2 : Int32)), (.int (0 : Int32)), (.ref b1), (.ref b1)])) (fun t k => XS.iconst X1.here hx rfl (hb hby d1_13) k) ?_
    obtain ⟨T2, h2, X2, e2, W2, st2⟩ := own_bst X1 hx hZ e1 V1 (j := 0) rfl (by decide) (by decide) (g := (mkF m 14 #[.val (.int z)] [(.int (2 : Int32)), (.int (0 : Int32)), (.ref b1), (.ref b1)])) rfl rfl (hb hby d1_14)
    refine own_st (g1 := (mkF m 15 #[.val (.int z)] [(.ref b1)])) (st2) ?_
    have V2 := (V1.set W2).congr (f' := fun _ => .int (if z = 0 then 2 else 1)) (fun j hj => by
      have hj0 : j = 0 := by omega
      simp only [hj0, if_true]
      rw [if_pos hz]; rfl)
    exact own_here X2 ⟨15, _, _, rfl, (hb hby d1_15), (by decide), (by decide), (by rw [e2]; exact ⟨b1, rfl, Fr.snoc X2 (Fr.nil n0) gb, gb, K1.wr W2 (Or.inr (by omega)), V2⟩)⟩
  · refine own_st (g1 := (mkF m 9 #[.val (.int z)] [(.int (0 : Int32)), (.ref b1), (.ref b1)])) (fun t k => XS.ifNo X1.here hx rfl (hb hby d1_6) rfl ((if0 _ _).trans (feq hz).1) k) ?_
    refine own_st (g1 := (mkF m 10 #[.val (.int z)] [(.int (1 : Int32)), (.int (0 : Int32)), (.ref b1), (.ref b1)])) (fun t k => XS.iconst X1.here hx rfl (hb hby d1_9) k) ?_
    refine own_st (g1 := (mkF m 14 #[.val (.int z)] [(.int (1 : Int32)), (.int (0 : Int32)), (.ref b1), (.ref b1)])) (fun t k => XS.goto X1.here hx rfl (pc0 := 10) (pc' := 14) rfl (hb hby d1_10) (by decide) (by decide) k) ?_
    obtain ⟨T3, h3, X3, e3, W3, st3⟩ := own_bst X1 hx hZ e1 V1 (j := 0) rfl (by decide) (by decide) (g := (mkF m 14 #[.val (.int z)] [(.int (1 : Int32)), (.int (0 : Int32)), (.ref b1), (.ref b1)])) rfl rfl (hb hby d1_14)
    refine own_st (g1 := (mkF m 15 #[.val (.int z)] [(.ref b1)])) (st3) ?_
    have V3 := (V1.set W3).congr (f' := fun _ => .int (if z = 0 then 2 else 1)) (fun j hj => by
      have hj0 : j = 0 := by omega
      simp only [hj0, if_true]
      rw [if_neg hz]; rfl)
    exact own_here X3 ⟨15, _, _, rfl, (hb hby d1_15), (by decide), (by decide), (by rw [e3]; exact ⟨b1, rfl, Fr.snoc X3 (Fr.nil n0) gb, gb, K1.wr W3 (Or.inr (by omega)), V3⟩)⟩
theorem d2_0 : decode prog_29_method_2_code 0 = .ok (.aload_n 0, 1) := by decide +kernel
theorem d2_1 : decode prog_29_method_2_code 1 = .ok (.arraylength, 1) := by decide +kernel
theorem d2_2 : decode prog_29_method_2_code 2 = .ok (.iconst 1, 1) := by decide +kernel
theorem d2_3 : decode prog_29_method_2_code 3 = .ok (.if_icmp .ne 14, 3) := by decide +kernel
theorem d2_6 : decode prog_29_method_2_code 6 = .ok (.aload_n 0, 1) := by decide +kernel
theorem d2_7 : decode prog_29_method_2_code 7 = .ok (.iconst 0, 1) := by decide +kernel
theorem d2_8 : decode prog_29_method_2_code 8 = .ok (.baload, 1) := by decide +kernel
theorem d2_9 : decode prog_29_method_2_code 9 = .ok (.iconst 1, 1) := by decide +kernel
theorem d2_10 : decode prog_29_method_2_code 10 = .ok (.if_icmp .ne 7, 3) := by decide +kernel
theorem d2_13 : decode prog_29_method_2_code 13 = .ok (.iconst 1, 1) := by decide +kernel
theorem d2_14 : decode prog_29_method_2_code 14 = .ok (.goto 4, 3) := by decide +kernel
theorem d2_17 : decode prog_29_method_2_code 17 = .ok (.iconst 0, 1) := by decide +kernel
theorem d2_18 : decode prog_29_method_2_code 18 = .ok (.ireturn, 1) := by decide +kernel
theorem pn_2 : plainName "com/example/concordat/concordat/kv/Commit" = true := by first | (simp [plainName, overriddenIn]; done) | decide +kernel
theorem ef_2 (m : MethodId) (x0 : Nat) : entryFrame m #[(.ref x0)] 1 = mkF m 0 #[.val (.ref x0)] [] := by first | (simp [entryFrame, mkF, argsToLocals, Value.category]; done) | rfl
def Q2 (n : Nat) (f : Nat → Int32) (h0 : Heap) (n0 : Nat) (v : Option Value) (h : Heap) (L : List Loc) : Prop := v = some (.int (own_cm n (f 0))) ∧ Fr n0 L ∧ h = h0
set_option maxRecDepth 65536 in
set_option maxHeartbeats 40000000 in
theorem rm2 (l : Launch) (Z : State) (a0 : Array Value) (hw : ∀ d ∈ tables_1, d.before a0 Z = true) (ws : List Jvm.Cond) (a : Nat) (n : Nat) (f : Nat → Int32) (h0 : Heap) (n0 : Nat) (hn : n ≤ 3) (V : VA Z h0 a .byte n (fun j => .int (f j))) :
    Meets l Z (⟨"com/example/concordat/concordat/kv/Commit", "committed", "([B)Z"⟩ : MethodName) prog_29_method_2_code 1 (some .boolean) ws ({ frames := 0, cells := 0, slots := 0, locals := 0 } : Room) #[(.ref a)] h0 0 0 (Q2 n f h0 n0) := by
  refine own_meets (plainFor_of_name pn_2) ?_
  intro p e s m below meth c s₁ hx hZ hby hml hown hnm hret hlk X0 e0
  have hown : s.vm.findClass "com/example/concordat/concordat/kv/Commit" = some m.cls := hown
  have hnm : meth.name = "committed" := hnm
  refine own_finN (l := l) (R := ({ frames := 0, cells := 0, slots := 0, locals := 0 } : Room)) (m := m) (args := #[(.ref a)]) (c := c) (by simp) hx hret hlk ?_
  refine own_cast (ef_2 m a) ?_
  refine own_st (g1 := (mkF m 1 #[.val (.ref a)] [(.ref a)])) (fun t k => XS.aloadN X0.here hx rfl (hb hby d2_0) rfl rfl k) ?_
  refine own_st (g1 := (mkF m 2 #[.val (.ref a)] [(.int (Int32.ofNat n))])) (own_len X0 hx hZ e0 V (N := (Int32.ofNat n)) rfl (g := (mkF m 1 #[.val (.ref a)] [(.ref a)])) rfl rfl (hb hby d2_1)) ?_
  refine own_st (g1 := (mkF m 3 #[.val (.ref a)] [(.int (1 : Int32)), (.int (Int32.ofNat n))])) (fun t k => XS.iconst X0.here hx rfl (hb hby d2_2) k) ?_
  by_cases h1 : (Int32.ofNat n) = (1 : Int32)
  · refine own_st (g1 := (mkF m 6 #[.val (.ref a)] [])) (fun t k => XS.icmpNo X0.here hx rfl (hb hby d2_3) rfl (teq h1).2 k) ?_
    have e1 : n = 1 := (own_eq (j := 1) (by omega) (by omega)).mp h1
    refine own_st (g1 := (mkF m 7 #[.val (.ref a)] [(.ref a)])) (fun t k => XS.aloadN X0.here hx rfl (hb hby d2_6) rfl rfl k) ?_
    refine own_st (g1 := (mkF m 8 #[.val (.ref a)] [(.int (0 : Int32)), (.ref a)])) (fun t k => XS.iconst X0.here hx rfl (hb hby d2_7) k) ?_
    refine own_st (g1 := (mkF m 9 #[.val (.ref a)] [(.int (f 0))])) (own_bld X0 hx hZ e0 V (j := 0) (v := (.int (f 0))) rfl (by omega) (by omega) rfl (g := (mkF m 8 #[.val (.ref a)] [(.int (0 : Int32)), (.ref a)])) rfl rfl (hb hby d2_8)) ?_
    refine own_st (g1 := (mkF m 10 #[.val (.ref a)] [(.int (1 : Int32)), (.int (f 0))])) (fun t k => XS.iconst X0.here hx rfl (hb hby d2_9) k) ?_
    by_cases h2 : (f 0) = (1 : Int32)
    · refine own_st (g1 := (mkF m 13 #[.val (.ref a)] [])) (fun t k => XS.icmpNo X0.here hx rfl (hb hby d2_10) rfl (teq h2).2 k) ?_
      refine own_st (g1 := (mkF m 14 #[.val (.ref a)] [(.int (1 : Int32))])) (fun t k => XS.iconst X0.here hx rfl (hb hby d2_13) k) ?_
      refine own_st (g1 := (mkF m 18 #[.val (.ref a)] [(.int (1 : Int32))])) (fun t k => XS.goto X0.here hx rfl (pc0 := 14) (pc' := 18) rfl (hb hby d2_14) (by decide) (by decide) k) ?_
      have q : (1 : Int32) = own_cm n (f 0) := by unfold own_cm; rw [if_pos ⟨e1, h2⟩]
      exact own_here X0 ⟨18, _, _, rfl, (hb hby d2_18), rfl, (by decide), (by decide), (by rw [e0]; exact ⟨by rw [← q], Fr.nil n0, rfl⟩)⟩
    · refine own_st (g1 := (mkF m 17 #[.val (.ref a)] [])) (fun t k => XS.icmpYes X0.here hx rfl (pc0 := 10) (pc' := 17) rfl (hb hby d2_10) rfl (feq h2).2 (by decide) (by decide) k) ?_
      refine own_st (g1 := (mkF m 18 #[.val (.ref a)] [(.int (0 : Int32))])) (fun t k => XS.iconst X0.here hx rfl (hb hby d2_17) k) ?_
      have q : (0 : Int32) = own_cm n (f 0) := by unfold own_cm; rw [if_neg (fun u => h2 u.2)]
      exact own_here X0 ⟨18, _, _, rfl, (hb hby d2_18), rfl, (by decide), (by decide), (by rw [e0]; exact ⟨by rw [← q], Fr.nil n0, rfl⟩)⟩
  · refine own_st (g1 := (mkF m 17 #[.val (.ref a)] [])) (fun t k => XS.icmpYes X0.here hx rfl (pc0 := 3) (pc' := 17) rfl (hb hby d2_3) rfl (feq h1).2 (by decide) (by decide) k) ?_
    have e1 : ¬ n = 1 := fun u => h1 (by rw [u]; rfl)
    refine own_st (g1 := (mkF m 18 #[.val (.ref a)] [(.int (0 : Int32))])) (fun t k => XS.iconst X0.here hx rfl (hb hby d2_17) k) ?_
    have q : (0 : Int32) = own_cm n (f 0) := by unfold own_cm; rw [if_neg (fun u => e1 u.1)]
    exact own_here X0 ⟨18, _, _, rfl, (hb hby d2_18), rfl, (by decide), (by decide), (by rw [e0]; exact ⟨by rw [← q], Fr.nil n0, rfl⟩)⟩
theorem pn_0 : plainName "com/example/concordat/concordat/kv/CommitCommittedPinLaw" = true := by first | (simp [plainName, overriddenIn]; done) | decide +kernel
theorem ef_0 (m : MethodId) (x0 : Int32) (x1 : Int32) (x2 : Int32) (x3 : Int32) (x4 : Int32) : entryFrame m #[(.int x0), (.int x1), (.int x2), (.int x3), (.int x4)] maxLocals = mkF m 0 #[.val (.int x0), .val (.int x1), .val (.int x2), .val (.int x3), .val (.int x4), .unset, .unset, .unset, .unset, .unset, .unset] [] := by first | (simp [entryFrame, mkF, argsToLocals, Value.category, maxLocals]; done) | rfl
theorem pd_0 : parseMethodDescriptor "(Z)[B" = some ⟨[.boolean], some (.array .byte)⟩ := by decide +kernel
theorem pd_1 : parseMethodDescriptor "([B)Z" = some ⟨[(.array .byte)], some .boolean⟩ := by decide +kernel
def Q0 (h0 : Heap) (n0 : Nat) (v : Option Value) (h : Heap) (L : List Loc) : Prop := v = some (.int (1 : Int32)) ∧ Fr n0 L
set_option maxRecDepth 65536 in
set_option maxHeartbeats 40000000 in
theorem rm0 (l : Launch) (Z : State) (a0 : Array Value) (hw : ∀ d ∈ tables_1, d.before a0 Z = true) (ws : List Jvm.Cond) (p1 : Int32) (p2 : Int32) (p3 : Int32) (p4 : Int32) (p5 : Int32) (h0 : Heap) (n0 : Nat) (Z0 : n0 ≤ h0.size) :
    Meets l Z x code maxLocals ret ws room_1 #[(.int p1), (.int p2), (.int p3), (.int p4), (.int p5)] h0 2 4 (Q0 h0 n0) := by
  refine own_meets (plainFor_of_name pn_0) ?_
  intro p e s m below meth c s₁ hx hZ hby hml hown hnm hret hlk X0 e0
  have hown : s.vm.findClass "com/example/concordat/concordat/kv/CommitCommittedPinLaw" = some m.cls := hown
  have hnm : meth.name = "law" := hnm
  refine own_finN (l := l) (R := room_1) (m := m) (args := #[(.int p1), (.int p2), (.int p3), (.int p4), (.int p5)]) (c := c) (by simp) hx hret hlk ?_
  refine own_cast (ef_0 m p1 p2 p3 p4 p5) ?_
  have hA : Goes p l e room_1 s m #[(.int p1), (.int p2), (.int p3), (.int p4), (.int p5)] below meth c s₁ (mkF m 0 #[.val (.int p1), .val (.int p2), .val (.int p3), .val (.int p4), .val (.int p5), .unset, .unset, .unset, .unset, .unset, .unset] []) (fun T' L' k' n' g' => ∃ (n : Nat) (b : Nat) (f : Nat → Int32), n ≤ 3 ∧ g' = (mkF m 46 #[.val (.int p1), .val (.int p2), .val (.int p3), .val (.int p4), .val (.int p5), .val (.int (Int32.ofNat n)), .val (.ref b), .unset, .unset, .unset, .unset] []) ∧ k' = 1 ∧ n' = 3 ∧ Fr n0 L' ∧ n0 ≤ T'.heap.size ∧ n0 ≤ b ∧ VA Z T'.heap b .byte n (fun j => .int (f j)) ∧ (n = 1 → f 0 = nar .byte p2.toInt8.toInt32)) := by
    refine own_st (g1 := (mkF m 1 #[.val (.int p1), .val (.int p2), .val (.int p3), .val (.int p4), .val (.int p5), .unset, .unset, .unset, .unset, .unset, .unset] [(.int p1)])) (fun t k => XS.iloadN X0.here hx rfl (hb hby at_0) rfl k) ?_
    refine own_st (g1 := (mkF m 2 #[.val (.int p1), .val (.int p2), .val (.int p3), .val (.int p4), .val (.int p5), .unset, .unset, .unset, .unset, .unset, .unset] [(.int (3 : Int32)), (.int p1)])) (fun t k => XS.iconst X0.here hx rfl (hb hby at_1) k) ?_
    refine own_st (g1 := (mkF m 3 #[.val (.int p1), .val (.int p2), .val (.int p3), .val (.int p4), .val (.int p5), .unset, .unset, .unset, .unset, .unset, .unset] [(.int (p1 &&& (3 : Int32)))])) (fun t k => XS.iand X0.here hx rfl (hb hby at_2) rfl k) ?_
    rcases own_mask3 p1 with hm | hm | hm | hm
    · rw [hm]
      refine own_st (g1 := (mkF m 5 #[.val (.int p1), .val (.int p2), .val (.int p3), .val (.int p4), .val (.int p5), .val (.int (0 : Int32)), .unset, .unset, .unset, .unset, .unset] [])) (fun t k => XS.istore X0.here hx rfl (hb hby at_3) rfl (l' := #[.val (.int p1), .val (.int p2), .val (.int p3), .val (.int p4), .val (.int p5), .val (.int (0 : Int32)), .unset, .unset, .unset, .unset, .unset]) rfl k) ?_
      refine own_st (g1 := (mkF m 7 #[.val (.int p1), .val (.int p2), .val (.int p3), .val (.int p4), .val (.int p5), .val (.int (0 : Int32)), .unset, .unset, .unset, .unset, .unset] [(.int (0 : Int32))])) (fun t k => XS.iload X0.here hx rfl (hb hby at_5) rfl k) ?_
      obtain ⟨T4, h4, k4, X4, e4, E4, A4, st4⟩ := newP X0 hx hZ (hw _ (List.mem_of_getElem? (i := 0) rfl)) e0 (g := (mkF m 7 #[.val (.int p1), .val (.int p2), .val (.int p3), .val (.int p4), .val (.int p5), .val (.int (0 : Int32)), .unset, .unset, .unset, .unset, .unset] [(.int (0 : Int32))])) rfl (hb hby at_7) rfl (by decide) (cap := 3) (by decide) (by decide) (by decide) (by decide)
      obtain ⟨b4, g4⟩ : ∃ z, z = h0.size := ⟨_, rfl⟩
      rw [← g4] at A4 st4
      refine own_st (g1 := (mkF m 9 #[.val (.int p1), .val (.int p2), .val (.int p3), .val (.int p4), .val (.int p5), .val (.int (0 : Int32)), .unset, .unset, .unset, .unset, .unset] [(.ref b4)])) (st4) ?_
      have V4 : VA Z h4 b4 .byte 0 (fun _ => .int (0 : Int32)) := VA.new A4 rfl
      have gb : n0 ≤ b4 := by omega
      have Z4 := Nat.le_trans Z0 E4.1
      have N4 := Fr.nil n0
      refine own_st (g1 := (mkF m 11 #[.val (.int p1), .val (.int p2), .val (.int p3), .val (.int p4), .val (.int p5), .val (.int (0 : Int32)), .val (.ref b4), .unset, .unset, .unset, .unset] [])) (fun t k => XS.astore X4.here hx rfl (hb hby at_9) rfl rfl (l' := #[.val (.int p1), .val (.int p2), .val (.int p3), .val (.int p4), .val (.int p5), .val (.int (0 : Int32)), .val (.ref b4), .unset, .unset, .unset, .unset]) rfl k) ?_
      refine own_st (g1 := (mkF m 13 #[.val (.int p1), .val (.int p2), .val (.int p3), .val (.int p4), .val (.int p5), .val (.int (0 : Int32)), .val (.ref b4), .unset, .unset, .unset, .unset] [(.int (0 : Int32))])) (fun t k => XS.iload X4.here hx rfl (hb hby at_11) rfl k) ?_
      refine own_st (g1 := (mkF m 22 #[.val (.int p1), .val (.int p2), .val (.int p3), .val (.int p4), .val (.int p5), .val (.int (0 : Int32)), .val (.ref b4), .unset, .unset, .unset, .unset] [])) (fun t k => XS.ifYes X4.here hx rfl (pc0 := 13) (pc' := 22) rfl (hb hby at_13) rfl ((if0 _ _).trans (flt (by decide)).2.2.2) (by decide) (by decide) k) ?_
      refine own_st (g1 := (mkF m 24 #[.val (.int p1), .val (.int p2), .val (.int p3), .val (.int p4), .val (.int p5), .val (.int (0 : Int32)), .val (.ref b4), .unset, .unset, .unset, .unset] [(.int (0 : Int32))])) (fun t k => XS.iload X4.here hx rfl (hb hby at_22) rfl k) ?_
      refine own_st (g1 := (mkF m 25 #[.val (.int p1), .val (.int p2), .val (.int p3), .val (.int p4), .val (.int p5), .val (.int (0 : Int32)), .val (.ref b4), .unset, .unset, .unset, .unset] [(.int (1 : Int32)), (.int (0 : Int32))])) (fun t k => XS.iconst X4.here hx rfl (hb hby at_24) k) ?_
      refine own_st (g1 := (mkF m 34 #[.val (.int p1), .val (.int p2), .val (.int p3), .val (.int p4), .val (.int p5), .val (.int (0 : Int32)), .val (.ref b4), .unset, .unset, .unset, .unset] [])) (fun t k => XS.icmpYes X4.here hx rfl (pc0 := 25) (pc' := 34) rfl (hb hby at_25) rfl (flt (by decide)).2.2.2 (by decide) (by decide) k) ?_
      refine own_st (g1 := (mkF m 36 #[.val (.int p1), .val (.int p2), .val (.int p3), .val (.int p4), .val (.int p5), .val (.int (0 : Int32)), .val (.ref b4), .unset, .unset, .unset, .unset] [(.int (0 : Int32))])) (fun t k => XS.iload X4.here hx rfl (hb hby at_34) rfl k) ?_
      refine own_st (g1 := (mkF m 37 #[.val (.int p1), .val (.int p2), .val (.int p3), .val (.int p4), .val (.int p5), .val (.int (0 : Int32)), .val (.ref b4), .unset, .unset, .unset, .unset] [(.int (2 : Int32)), (.int (0 : Int32))])) (fun t k => XS.iconst X4.here hx rfl (hb hby at_36) k) ?_
      refine own_st (g1 := (mkF m 46 #[.val (.int p1), .val (.int p2), .val (.int p3), .val (.int p4), .val (.int p5), .val (.int (0 : Int32)), .val (.ref b4), .unset, .unset, .unset, .unset] [])) (fun t k => XS.icmpYes X4.here hx rfl (pc0 := 37) (pc' := 46) rfl (hb hby at_37) rfl (flt (by decide)).2.2.2 (by decide) (by decide) k) ?_
      exact own_here X4 ⟨0, b4, (fun _ => (0 : Int32)), by decide, rfl, rfl, rfl, N4, by rw [e4]; exact Z4, gb, by rw [e4]; exact V4, fun u => by omega⟩
    · rw [hm]
      refine own_st (g1 := (mkF m 5 #[.val (.int p1), .val (.int p2), .val (.int p3), .val (.int p4), .val (.int p5), .val (.int (1 : Int32)), .unset, .unset, .unset, .unset, .unset] [])) (fun t k => XS.istore X0.here hx rfl (hb hby at_3) rfl (l' := #[.val (.int p1), .val (.int p2), .val (.int p3), .val (.int p4), .val (.int p5), .val (.int (1 : Int32)), .unset, .unset, .unset, .unset, .unset]) rfl k) ?_
      refine own_st (g1 := (mkF m 7 #[.val (.int p1), .val (.int p2), .val (.int p3), .val (.int p4), .val (.int p5), .val (.int (1 : Int32)), .unset, .unset, .unset, .unset, .unset] [(.int (1 : Int32))])) (fun t k => XS.iload X0.here hx rfl (hb hby at_5) rfl k) ?_
      obtain ⟨T5, h5, k5, X5, e5, E5, A5, st5⟩ := newP X0 hx hZ (hw _ (List.mem_of_getElem? (i := 0) rfl)) e0 (g := (mkF m 7 #[.val (.int p1), .val (.int p2), .val (.int p3), .val (.int p4), .val (.int p5), .val (.int (1 : Int32)), .unset, .unset, .unset, .unset, .unset] [(.int (1 : Int32))])) rfl (hb hby at_7) rfl (by decide) (cap := 3) (by decide) (by decide) (by decide) (by decide)
      obtain ⟨b5, g5⟩ : ∃ z, z = h0.size := ⟨_, rfl⟩
      rw [← g5] at A5 st5
      refine own_st (g1 := (mkF m 9 #[.val (.int p1), .val (.int p2), .val (.int p3), .val (.int p4), .val (.int p5), .val (.int (1 : Int32)), .unset, .unset, .unset, .unset, .unset] [(.ref b5)])) (st5) ?_
      have V5 : VA Z h5 b5 .byte 1 (fun _ => .int (0 : Int32)) := VA.new A5 rfl
      have gb : n0 ≤ b5 := by omega
      have Z5 := Nat.le_trans Z0 E5.1
      have N5 := Fr.nil n0
      refine own_st (g1 := (mkF m 11 #[.val (.int p1), .val (.int p2), .val (.int p3), .val (.int p4), .val (.int p5), .val (.int (1 : Int32)), .val (.ref b5), .unset, .unset, .unset, .unset] [])) (fun t k => XS.astore X5.here hx rfl (hb hby at_9) rfl rfl (l' := #[.val (.int p1), .val (.int p2), .val (.int p3), .val (.int p4), .val (.int p5), .val (.int (1 : Int32)), .val (.ref b5), .unset, .unset, .unset, .unset]) rfl k) ?_
      refine own_st (g1 := (mkF m 13 #[.val (.int p1), .val (.int p2), .val (.int p3), .val (.int p4), .val (.int p5), .val (.int (1 : Int32)), .val (.ref b5), .unset, .unset, .unset, .unset] [(.int (1 : Int32))])) (fun t k => XS.iload X5.here hx rfl (hb hby at_11) rfl k) ?_
      refine own_st (g1 := (mkF m 16 #[.val (.int p1), .val (.int p2), .val (.int p3), .val (.int p4), .val (.int p5), .val (.int (1 : Int32)), .val (.ref b5), .unset, .unset, .unset, .unset] [])) (fun t k => XS.ifNo X5.here hx rfl (hb hby at_13) rfl ((if0 _ _).trans (tlt (by decide)).2.2.2) k) ?_
      refine own_st (g1 := (mkF m 18 #[.val (.int p1), .val (.int p2), .val (.int p3), .val (.int p4), .val (.int p5), .val (.int (1 : Int32)), .val (.ref b5), .unset, .unset, .unset, .unset] [(.ref b5)])) (fun t k => XS.aload X5.here hx rfl (hb hby at_16) rfl rfl k) ?_
      refine own_st (g1 := (mkF m 19 #[.val (.int p1), .val (.int p2), .val (.int p3), .val (.int p4), .val (.int p5), .val (.int (1 : Int32)), .val (.ref b5), .unset, .unset, .unset, .unset] [(.int (0 : Int32)), (.ref b5)])) (fun t k => XS.iconst X5.here hx rfl (hb hby at_18) k) ?_
      refine own_st (g1 := (mkF m 20 #[.val (.int p1), .val (.int p2), .val (.int p3), .val (.int p4), .val (.int p5), .val (.int (1 : Int32)), .val (.ref b5), .unset, .unset, .unset, .unset] [(.int p2), (.int (0 : Int32)), (.ref b5)])) (fun t k => XS.iloadN X5.here hx rfl (hb hby at_19) rfl k) ?_
      refine own_st (g1 := (mkF m 21 #[.val (.int p1), .val (.int p2), .val (.int p3), .val (.int p4), .val (.int p5), .val (.int (1 : Int32)), .val (.ref b5), .unset, .unset, .unset, .unset] [(.int (p2.toInt8.toInt32)), (.int (0 : Int32)), (.ref b5)])) (fun t k => XS.i2b X5.here hx rfl (hb hby at_20) rfl k) ?_
      obtain ⟨T6, h6, X6, e6, W6, st6⟩ := own_bst X5 hx hZ e5 V5 (j := 0) rfl (by decide) (by decide) (g := (mkF m 21 #[.val (.int p1), .val (.int p2), .val (.int p3), .val (.int p4), .val (.int p5), .val (.int (1 : Int32)), .val (.ref b5), .unset, .unset, .unset, .unset] [(.int (p2.toInt8.toInt32)), (.int (0 : Int32)), (.ref b5)])) rfl rfl (hb hby at_21)
      refine own_st (g1 := (mkF m 22 #[.val (.int p1), .val (.int p2), .val (.int p3), .val (.int p4), .val (.int p5), .val (.int (1 : Int32)), .val (.ref b5), .unset, .unset, .unset, .unset] [])) (st6) ?_
      have V6 := V5.setI W6
      have N6 := Fr.snoc X6 N5 gb
      have Z6 : n0 ≤ h6.size := by rw [Wr.size W6]; exact Z5
      refine own_st (g1 := (mkF m 24 #[.val (.int p1), .val (.int p2), .val (.int p3), .val (.int p4), .val (.int p5), .val (.int (1 : Int32)), .val (.ref b5), .unset, .unset, .unset, .unset] [(.int (1 : Int32))])) (fun t k => XS.iload X6.here hx rfl (hb hby at_22) rfl k) ?_
      refine own_st (g1 := (mkF m 25 #[.val (.int p1), .val (.int p2), .val (.int p3), .val (.int p4), .val (.int p5), .val (.int (1 : Int32)), .val (.ref b5), .unset, .unset, .unset, .unset] [(.int (1 : Int32)), (.int (1 : Int32))])) (fun t k => XS.iconst X6.here hx rfl (hb hby at_24) k) ?_
      refine own_st (g1 := (mkF m 34 #[.val (.int p1), .val (.int p2), .val (.int p3), .val (.int p4), .val (.int p5), .val (.int (1 : Int32)), .val (.ref b5), .unset, .unset, .unset, .unset] [])) (fun t k => XS.icmpYes X6.here hx rfl (pc0 := 25) (pc' := 34) rfl (hb hby at_25) rfl (flt (by decide)).2.2.2 (by decide) (by decide) k) ?_
      refine own_st (g1 := (mkF m 36 #[.val (.int p1), .val (.int p2), .val (.int p3), .val (.int p4), .val (.int p5), .val (.int (1 : Int32)), .val (.ref b5), .unset, .unset, .unset, .unset] [(.int (1 : Int32))])) (fun t k => XS.iload X6.here hx rfl (hb hby at_34) rfl k) ?_
      refine own_st (g1 := (mkF m 37 #[.val (.int p1), .val (.int p2), .val (.int p3), .val (.int p4), .val (.int p5), .val (.int (1 : Int32)), .val (.ref b5), .unset, .unset, .unset, .unset] [(.int (2 : Int32)), (.int (1 : Int32))])) (fun t k => XS.iconst X6.here hx rfl (hb hby at_36) k) ?_
      refine own_st (g1 := (mkF m 46 #[.val (.int p1), .val (.int p2), .val (.int p3), .val (.int p4), .val (.int p5), .val (.int (1 : Int32)), .val (.ref b5), .unset, .unset, .unset, .unset] [])) (fun t k => XS.icmpYes X6.here hx rfl (pc0 := 37) (pc' := 46) rfl (hb hby at_37) rfl (flt (by decide)).2.2.2 (by decide) (by decide) k) ?_
      exact own_here X6 ⟨1, b5, (upd (fun _ => (0 : Int32)) 0 (nar .byte p2.toInt8.toInt32)), by decide, rfl, rfl, rfl, N6, by rw [e6]; exact Z6, gb, by rw [e6]; exact V6, fun _ => rfl⟩
    · rw [hm]
      refine own_st (g1 := (mkF m 5 #[.val (.int p1), .val (.int p2), .val (.int p3), .val (.int p4), .val (.int p5), .val (.int (2 : Int32)), .unset, .unset, .unset, .unset, .unset] [])) (fun t k => XS.istore X0.here hx rfl (hb hby at_3) rfl (l' := #[.val (.int p1), .val (.int p2), .val (.int p3), .val (.int p4), .val (.int p5), .val (.int (2 : Int32)), .unset, .unset, .unset, .unset, .unset]) rfl k) ?_
      refine own_st (g1 := (mkF m 7 #[.val (.int p1), .val (.int p2), .val (.int p3), .val (.int p4), .val (.int p5), .val (.int (2 : Int32)), .unset, .unset, .unset, .unset, .unset] [(.int (2 : Int32))])) (fun t k => XS.iload X0.here hx rfl (hb hby at_5) rfl k) ?_
      obtain ⟨T7, h7, k7, X7, e7, E7, A7, st7⟩ := newP X0 hx hZ (hw _ (List.mem_of_getElem? (i := 0) rfl)) e0 (g := (mkF m 7 #[.val (.int p1), .val (.int p2), .val (.int p3), .val (.int p4), .val (.int p5), .val (.int (2 : Int32)), .unset, .unset, .unset, .unset, .unset] [(.int (2 : Int32))])) rfl (hb hby at_7) rfl (by decide) (cap := 3) (by decide) (by decide) (by decide) (by decide)
      obtain ⟨b7, g7⟩ : ∃ z, z = h0.size := ⟨_, rfl⟩
      rw [← g7] at A7 st7
      refine own_st (g1 := (mkF m 9 #[.val (.int p1), .val (.int p2), .val (.int p3), .val (.int p4), .val (.int p5), .val (.int (2 : Int32)), .unset, .unset, .unset, .unset, .unset] [(.ref b7)])) (st7) ?_
      have V7 : VA Z h7 b7 .byte 2 (fun _ => .int (0 : Int32)) := VA.new A7 rfl
      have gb : n0 ≤ b7 := by omega
      have Z7 := Nat.le_trans Z0 E7.1
      have N7 := Fr.nil n0
      refine own_st (g1 := (mkF m 11 #[.val (.int p1), .val (.int p2), .val (.int p3), .val (.int p4), .val (.int p5), .val (.int (2 : Int32)), .val (.ref b7), .unset, .unset, .unset, .unset] [])) (fun t k => XS.astore X7.here hx rfl (hb hby at_9) rfl rfl (l' := #[.val (.int p1), .val (.int p2), .val (.int p3), .val (.int p4), .val (.int p5), .val (.int (2 : Int32)), .val (.ref b7), .unset, .unset, .unset, .unset]) rfl k) ?_
      refine own_st (g1 := (mkF m 13 #[.val (.int p1), .val (.int p2), .val (.int p3), .val (.int p4), .val (.int p5), .val (.int (2 : Int32)), .val (.ref b7), .unset, .unset, .unset, .unset] [(.int (2 : Int32))])) (fun t k => XS.iload X7.here hx rfl (hb hby at_11) rfl k) ?_
      refine own_st (g1 := (mkF m 16 #[.val (.int p1), .val (.int p2), .val (.int p3), .val (.int p4), .val (.int p5), .val (.int (2 : Int32)), .val (.ref b7), .unset, .unset, .unset, .unset] [])) (fun t k => XS.ifNo X7.here hx rfl (hb hby at_13) rfl ((if0 _ _).trans (tlt (by decide)).2.2.2) k) ?_
      refine own_st (g1 := (mkF m 18 #[.val (.int p1), .val (.int p2), .val (.int p3), .val (.int p4), .val (.int p5), .val (.int (2 : Int32)), .val (.ref b7), .unset, .unset, .unset, .unset] [(.ref b7)])) (fun t k => XS.aload X7.here hx rfl (hb hby at_16) rfl rfl k) ?_
      refine own_st (g1 := (mkF m 19 #[.val (.int p1), .val (.int p2), .val (.int p3), .val (.int p4), .val (.int p5), .val (.int (2 : Int32)), .val (.ref b7), .unset, .unset, .unset, .unset] [(.int (0 : Int32)), (.ref b7)])) (fun t k => XS.iconst X7.here hx rfl (hb hby at_18) k) ?_
      refine own_st (g1 := (mkF m 20 #[.val (.int p1), .val (.int p2), .val (.int p3), .val (.int p4), .val (.int p5), .val (.int (2 : Int32)), .val (.ref b7), .unset, .unset, .unset, .unset] [(.int p2), (.int (0 : Int32)), (.ref b7)])) (fun t k => XS.iloadN X7.here hx rfl (hb hby at_19) rfl k) ?_
      refine own_st (g1 := (mkF m 21 #[.val (.int p1), .val (.int p2), .val (.int p3), .val (.int p4), .val (.int p5), .val (.int (2 : Int32)), .val (.ref b7), .unset, .unset, .unset, .unset] [(.int (p2.toInt8.toInt32)), (.int (0 : Int32)), (.ref b7)])) (fun t k => XS.i2b X7.here hx rfl (hb hby at_20) rfl k) ?_
      obtain ⟨T8, h8, X8, e8, W8, st8⟩ := own_bst X7 hx hZ e7 V7 (j := 0) rfl (by decide) (by decide) (g := (mkF m 21 #[.val (.int p1), .val (.int p2), .val (.int p3), .val (.int p4), .val (.int p5), .val (.int (2 : Int32)), .val (.ref b7), .unset, .unset, .unset, .unset] [(.int (p2.toInt8.toInt32)), (.int (0 : Int32)), (.ref b7)])) rfl rfl (hb hby at_21)
      refine own_st (g1 := (mkF m 22 #[.val (.int p1), .val (.int p2), .val (.int p3), .val (.int p4), .val (.int p5), .val (.int (2 : Int32)), .val (.ref b7), .unset, .unset, .unset, .unset] [])) (st8) ?_
      have V8 := V7.setI W8
      have N8 := Fr.snoc X8 N7 gb
      have Z8 : n0 ≤ h8.size := by rw [Wr.size W8]; exact Z7
      refine own_st (g1 := (mkF m 24 #[.val (.int p1), .val (.int p2), .val (.int p3), .val (.int p4), .val (.int p5), .val (.int (2 : Int32)), .val (.ref b7), .unset, .unset, .unset, .unset] [(.int (2 : Int32))])) (fun t k => XS.iload X8.here hx rfl (hb hby at_22) rfl k) ?_
      refine own_st (g1 := (mkF m 25 #[.val (.int p1), .val (.int p2), .val (.int p3), .val (.int p4), .val (.int p5), .val (.int (2 : Int32)), .val (.ref b7), .unset, .unset, .unset, .unset] [(.int (1 : Int32)), (.int (2 : Int32))])) (fun t k => XS.iconst X8.here hx rfl (hb hby at_24) k) ?_
      refine own_st (g1 := (mkF m 28 #[.val (.int p1), .val (.int p2), .val (.int p3), .val (.int p4), .val (.int p5), .val (.int (2 : Int32)), .val (.ref b7), .unset, .unset, .unset, .unset] [])) (fun t k => XS.icmpNo X8.here hx rfl (hb hby at_25) rfl (tlt (by decide)).2.2.2 k) ?_
      refine own_st (g1 := (mkF m 30 #[.val (.int p1), .val (.int p2), .val (.int p3), .val (.int p4), .val (.int p5), .val (.int (2 : Int32)), .val (.ref b7), .unset, .unset, .unset, .unset] [(.ref b7)])) (fun t k => XS.aload X8.here hx rfl (hb hby at_28) rfl rfl k) ?_
      refine own_st (g1 := (mkF m 31 #[.val (.int p1), .val (.int p2), .val (.int p3), .val (.int p4), .val (.int p5), .val (.int (2 : Int32)), .val (.ref b7), .unset, .unset, .unset, .unset] [(.int (1 : Int32)), (.ref b7)])) (fun t k => XS.iconst X8.here hx rfl (hb hby at_30) k) ?_
      refine own_st (g1 := (mkF m 32 #[.val (.int p1), .val (.int p2), .val (.int p3), .val (.int p4), .val (.int p5), .val (.int (2 : Int32)), .val (.ref b7), .unset, .unset, .unset, .unset] [(.int p3), (.int (1 : Int32)), (.ref b7)])) (fun t k => XS.iloadN X8.here hx rfl (hb hby at_31) rfl k) ?_
      refine own_st (g1 := (mkF m 33 #[.val (.int p1), .val (.int p2), .val (.int p3), .val (.int p4), .val (.int p5), .val (.int (2 : Int32)), .val (.ref b7), .unset, .unset, .unset, .unset] [(.int (p3.toInt8.toInt32)), (.int (1 : Int32)), (.ref b7)])) (fun t k => XS.i2b X8.here hx rfl (hb hby at_32) rfl k) ?_
      obtain ⟨T9, h9, X9, e9, W9, st9⟩ := own_bst X8 hx hZ e8 V8 (j := 1) rfl (by decide) (by decide) (g := (mkF m 33 #[.val (.int p1), .val (.int p2), .val (.int p3), .val (.int p4), .val (.int p5), .val (.int (2 : Int32)), .val (.ref b7), .unset, .unset, .unset, .unset] [(.int (p3.toInt8.toInt32)), (.int (1 : Int32)), (.ref b7)])) rfl rfl (hb hby at_33)
      refine own_st (g1 := (mkF m 34 #[.val (.int p1), .val (.int p2), .val (.int p3), .val (.int p4), .val (.int p5), .val (.int (2 : Int32)), .val (.ref b7), .unset, .unset, .unset, .unset] [])) (st9) ?_
      have V9 := V8.setI W9
      have N9 := Fr.snoc X9 N8 gb
      have Z9 : n0 ≤ h9.size := by rw [Wr.size W9]; exact Z8
      refine own_st (g1 := (mkF m 36 #[.val (.int p1), .val (.int p2), .val (.int p3), .val (.int p4), .val (.int p5), .val (.int (2 : Int32)), .val (.ref b7), .unset, .unset, .unset, .unset] [(.int (2 : Int32))])) (fun t k => XS.iload X9.here hx rfl (hb hby at_34) rfl k) ?_
      refine own_st (g1 := (mkF m 37 #[.val (.int p1), .val (.int p2), .val (.int p3), .val (.int p4), .val (.int p5), .val (.int (2 : Int32)), .val (.ref b7), .unset, .unset, .unset, .unset] [(.int (2 : Int32)), (.int (2 : Int32))])) (fun t k => XS.iconst X9.here hx rfl (hb hby at_36) k) ?_
      refine own_st (g1 := (mkF m 46 #[.val (.int p1), .val (.int p2), .val (.int p3), .val (.int p4), .val (.int p5), .val (.int (2 : Int32)), .val (.ref b7), .unset, .unset, .unset, .unset] [])) (fun t k => XS.icmpYes X9.here hx rfl (pc0 := 37) (pc' := 46) rfl (hb hby at_37) rfl (flt (by decide)).2.2.2 (by decide) (by decide) k) ?_
      exact own_here X9 ⟨2, b7, (upd (upd (fun _ => (0 : Int32)) 0 (nar .byte p2.toInt8.toInt32)) 1 (nar .byte p3.toInt8.toInt32)), by decide, rfl, rfl, rfl, N9, by rw [e9]; exact Z9, gb, by rw [e9]; exact V9, fun u => by omega⟩
    · rw [hm]
      refine own_st (g1 := (mkF m 5 #[.val (.int p1), .val (.int p2), .val (.int p3), .val (.int p4), .val (.int p5), .val (.int (3 : Int32)), .unset, .unset, .unset, .unset, .unset] [])) (fun t k => XS.istore X0.here hx rfl (hb hby at_3) rfl (l' := #[.val (.int p1), .val (.int p2), .val (.int p3), .val (.int p4), .val (.int p5), .val (.int (3 : Int32)), .unset, .unset, .unset, .unset, .unset]) rfl k) ?_
      refine own_st (g1 := (mkF m 7 #[.val (.int p1), .val (.int p2), .val (.int p3), .val (.int p4), .val (.int p5), .val (.int (3 : Int32)), .unset, .unset, .unset, .unset, .unset] [(.int (3 : Int32))])) (fun t k => XS.iload X0.here hx rfl (hb hby at_5) rfl k) ?_
      obtain ⟨T10, h10, k10, X10, e10, E10, A10, st10⟩ := newP X0 hx hZ (hw _ (List.mem_of_getElem? (i := 0) rfl)) e0 (g := (mkF m 7 #[.val (.int p1), .val (.int p2), .val (.int p3), .val (.int p4), .val (.int p5), .val (.int (3 : Int32)), .unset, .unset, .unset, .unset, .unset] [(.int (3 : Int32))])) rfl (hb hby at_7) rfl (by decide) (cap := 3) (by decide) (by decide) (by decide) (by decide)
      obtain ⟨b10, g10⟩ : ∃ z, z = h0.size := ⟨_, rfl⟩
      rw [← g10] at A10 st10
      refine own_st (g1 := (mkF m 9 #[.val (.int p1), .val (.int p2), .val (.int p3), .val (.int p4), .val (.int p5), .val (.int (3 : Int32)), .unset, .unset, .unset, .unset, .unset] [(.ref b10)])) (st10) ?_
      have V10 : VA Z h10 b10 .byte 3 (fun _ => .int (0 : Int32)) := VA.new A10 rfl
      have gb : n0 ≤ b10 := by omega
      have Z10 := Nat.le_trans Z0 E10.1
      have N10 := Fr.nil n0
      refine own_st (g1 := (mkF m 11 #[.val (.int p1), .val (.int p2), .val (.int p3), .val (.int p4), .val (.int p5), .val (.int (3 : Int32)), .val (.ref b10), .unset, .unset, .unset, .unset] [])) (fun t k => XS.astore X10.here hx rfl (hb hby at_9) rfl rfl (l' := #[.val (.int p1), .val (.int p2), .val (.int p3), .val (.int p4), .val (.int p5), .val (.int (3 : Int32)), .val (.ref b10), .unset, .unset, .unset, .unset]) rfl k) ?_
      refine own_st (g1 := (mkF m 13 #[.val (.int p1), .val (.int p2), .val (.int p3), .val (.int p4), .val (.int p5), .val (.int (3 : Int32)), .val (.ref b10), .unset, .unset, .unset, .unset] [(.int (3 : Int32))])) (fun t k => XS.iload X10.here hx rfl (hb hby at_11) rfl k) ?_
      refine own_st (g1 := (mkF m 16 #[.val (.int p1), .val (.int p2), .val (.int p3), .val (.int p4), .val (.int p5), .val (.int (3 : Int32)), .val (.ref b10), .unset, .unset, .unset, .unset] [])) (fun t k => XS.ifNo X10.here hx rfl (hb hby at_13) rfl ((if0 _ _).trans (tlt (by decide)).2.2.2) k) ?_
      refine own_st (g1 := (mkF m 18 #[.val (.int p1), .val (.int p2), .val (.int p3), .val (.int p4), .val (.int p5), .val (.int (3 : Int32)), .val (.ref b10), .unset, .unset, .unset, .unset] [(.ref b10)])) (fun t k => XS.aload X10.here hx rfl (hb hby at_16) rfl rfl k) ?_
      refine own_st (g1 := (mkF m 19 #[.val (.int p1), .val (.int p2), .val (.int p3), .val (.int p4), .val (.int p5), .val (.int (3 : Int32)), .val (.ref b10), .unset, .unset, .unset, .unset] [(.int (0 : Int32)), (.ref b10)])) (fun t k => XS.iconst X10.here hx rfl (hb hby at_18) k) ?_
      refine own_st (g1 := (mkF m 20 #[.val (.int p1), .val (.int p2), .val (.int p3), .val (.int p4), .val (.int p5), .val (.int (3 : Int32)), .val (.ref b10), .unset, .unset, .unset, .unset] [(.int p2), (.int (0 : Int32)), (.ref b10)])) (fun t k => XS.iloadN X10.here hx rfl (hb hby at_19) rfl k) ?_
      refine own_st (g1 := (mkF m 21 #[.val (.int p1), .val (.int p2), .val (.int p3), .val (.int p4), .val (.int p5), .val (.int (3 : Int32)), .val (.ref b10), .unset, .unset, .unset, .unset] [(.int (p2.toInt8.toInt32)), (.int (0 : Int32)), (.ref b10)])) (fun t k => XS.i2b X10.here hx rfl (hb hby at_20) rfl k) ?_
      obtain ⟨T11, h11, X11, e11, W11, st11⟩ := own_bst X10 hx hZ e10 V10 (j := 0) rfl (by decide) (by decide) (g := (mkF m 21 #[.val (.int p1), .val (.int p2), .val (.int p3), .val (.int p4), .val (.int p5), .val (.int (3 : Int32)), .val (.ref b10), .unset, .unset, .unset, .unset] [(.int (p2.toInt8.toInt32)), (.int (0 : Int32)), (.ref b10)])) rfl rfl (hb hby at_21)
      refine own_st (g1 := (mkF m 22 #[.val (.int p1), .val (.int p2), .val (.int p3), .val (.int p4), .val (.int p5), .val (.int (3 : Int32)), .val (.ref b10), .unset, .unset, .unset, .unset] [])) (st11) ?_
      have V11 := V10.setI W11
      have N11 := Fr.snoc X11 N10 gb
      have Z11 : n0 ≤ h11.size := by rw [Wr.size W11]; exact Z10
      refine own_st (g1 := (mkF m 24 #[.val (.int p1), .val (.int p2), .val (.int p3), .val (.int p4), .val (.int p5), .val (.int (3 : Int32)), .val (.ref b10), .unset, .unset, .unset, .unset] [(.int (3 : Int32))])) (fun t k => XS.iload X11.here hx rfl (hb hby at_22) rfl k) ?_
      refine own_st (g1 := (mkF m 25 #[.val (.int p1), .val (.int p2), .val (.int p3), .val (.int p4), .val (.int p5), .val (.int (3 : Int32)), .val (.ref b10), .unset, .unset, .unset, .unset] [(.int (1 : Int32)), (.int (3 : Int32))])) (fun t k => XS.iconst X11.here hx rfl (hb hby at_24) k) ?_
      refine own_st (g1 := (mkF m 28 #[.val (.int p1), .val (.int p2), .val (.int p3), .val (.int p4), .val (.int p5), .val (.int (3 : Int32)), .val (.ref b10), .unset, .unset, .unset, .unset] [])) (fun t k => XS.icmpNo X11.here hx rfl (hb hby at_25) rfl (tlt (by decide)).2.2.2 k) ?_
      refine own_st (g1 := (mkF m 30 #[.val (.int p1), .val (.int p2), .val (.int p3), .val (.int p4), .val (.int p5), .val (.int (3 : Int32)), .val (.ref b10), .unset, .unset, .unset, .unset] [(.ref b10)])) (fun t k => XS.aload X11.here hx rfl (hb hby at_28) rfl rfl k) ?_
      refine own_st (g1 := (mkF m 31 #[.val (.int p1), .val (.int p2), .val (.int p3), .val (.int p4), .val (.int p5), .val (.int (3 : Int32)), .val (.ref b10), .unset, .unset, .unset, .unset] [(.int (1 : Int32)), (.ref b10)])) (fun t k => XS.iconst X11.here hx rfl (hb hby at_30) k) ?_
      refine own_st (g1 := (mkF m 32 #[.val (.int p1), .val (.int p2), .val (.int p3), .val (.int p4), .val (.int p5), .val (.int (3 : Int32)), .val (.ref b10), .unset, .unset, .unset, .unset] [(.int p3), (.int (1 : Int32)), (.ref b10)])) (fun t k => XS.iloadN X11.here hx rfl (hb hby at_31) rfl k) ?_
      refine own_st (g1 := (mkF m 33 #[.val (.int p1), .val (.int p2), .val (.int p3), .val (.int p4), .val (.int p5), .val (.int (3 : Int32)), .val (.ref b10), .unset, .unset, .unset, .unset] [(.int (p3.toInt8.toInt32)), (.int (1 : Int32)), (.ref b10)])) (fun t k => XS.i2b X11.here hx rfl (hb hby at_32) rfl k) ?_
      obtain ⟨T12, h12, X12, e12, W12, st12⟩ := own_bst X11 hx hZ e11 V11 (j := 1) rfl (by decide) (by decide) (g := (mkF m 33 #[.val (.int p1), .val (.int p2), .val (.int p3), .val (.int p4), .val (.int p5), .val (.int (3 : Int32)), .val (.ref b10), .unset, .unset, .unset, .unset] [(.int (p3.toInt8.toInt32)), (.int (1 : Int32)), (.ref b10)])) rfl rfl (hb hby at_33)
      refine own_st (g1 := (mkF m 34 #[.val (.int p1), .val (.int p2), .val (.int p3), .val (.int p4), .val (.int p5), .val (.int (3 : Int32)), .val (.ref b10), .unset, .unset, .unset, .unset] [])) (st12) ?_
      have V12 := V11.setI W12
      have N12 := Fr.snoc X12 N11 gb
      have Z12 : n0 ≤ h12.size := by rw [Wr.size W12]; exact Z11
      refine own_st (g1 := (mkF m 36 #[.val (.int p1), .val (.int p2), .val (.int p3), .val (.int p4), .val (.int p5), .val (.int (3 : Int32)), .val (.ref b10), .unset, .unset, .unset, .unset] [(.int (3 : Int32))])) (fun t k => XS.iload X12.here hx rfl (hb hby at_34) rfl k) ?_
      refine own_st (g1 := (mkF m 37 #[.val (.int p1), .val (.int p2), .val (.int p3), .val (.int p4), .val (.int p5), .val (.int (3 : Int32)), .val (.ref b10), .unset, .unset, .unset, .unset] [(.int (2 : Int32)), (.int (3 : Int32))])) (fun t k => XS.iconst X12.here hx rfl (hb hby at_36) k) ?_
      refine own_st (g1 := (mkF m 40 #[.val (.int p1), .val (.int p2), .val (.int p3), .val (.int p4), .val (.int p5), .val (.int (3 : Int32)), .val (.ref b10), .unset, .unset, .unset, .unset] [])) (fun t k => XS.icmpNo X12.here hx rfl (hb hby at_37) rfl (tlt (by decide)).2.2.2 k) ?_
      refine own_st (g1 := (mkF m 42 #[.val (.int p1), .val (.int p2), .val (.int p3), .val (.int p4), .val (.int p5), .val (.int (3 : Int32)), .val (.ref b10), .unset, .unset, .unset, .unset] [(.ref b10)])) (fun t k => XS.aload X12.here hx rfl (hb hby at_40) rfl rfl k) ?_
      refine own_st (g1 := (mkF m 43 #[.val (.int p1), .val (.int p2), .val (.int p3), .val (.int p4), .val (.int p5), .val (.int (3 : Int32)), .val (.ref b10), .unset, .unset, .unset, .unset] [(.int (2 : Int32)), (.ref b10)])) (fun t k => XS.iconst X12.here hx rfl (hb hby at_42) k) ?_
      refine own_st (g1 := (mkF m 44 #[.val (.int p1), .val (.int p2), .val (.int p3), .val (.int p4), .val (.int p5), .val (.int (3 : Int32)), .val (.ref b10), .unset, .unset, .unset, .unset] [(.int p4), (.int (2 : Int32)), (.ref b10)])) (fun t k => XS.iloadN X12.here hx rfl (hb hby at_43) rfl k) ?_
      refine own_st (g1 := (mkF m 45 #[.val (.int p1), .val (.int p2), .val (.int p3), .val (.int p4), .val (.int p5), .val (.int (3 : Int32)), .val (.ref b10), .unset, .unset, .unset, .unset] [(.int (p4.toInt8.toInt32)), (.int (2 : Int32)), (.ref b10)])) (fun t k => XS.i2b X12.here hx rfl (hb hby at_44) rfl k) ?_
      obtain ⟨T13, h13, X13, e13, W13, st13⟩ := own_bst X12 hx hZ e12 V12 (j := 2) rfl (by decide) (by decide) (g := (mkF m 45 #[.val (.int p1), .val (.int p2), .val (.int p3), .val (.int p4), .val (.int p5), .val (.int (3 : Int32)), .val (.ref b10), .unset, .unset, .unset, .unset] [(.int (p4.toInt8.toInt32)), (.int (2 : Int32)), (.ref b10)])) rfl rfl (hb hby at_45)
      refine own_st (g1 := (mkF m 46 #[.val (.int p1), .val (.int p2), .val (.int p3), .val (.int p4), .val (.int p5), .val (.int (3 : Int32)), .val (.ref b10), .unset, .unset, .unset, .unset] [])) (st13) ?_
      have V13 := V12.setI W13
      have N13 := Fr.snoc X13 N12 gb
      have Z13 : n0 ≤ h13.size := by rw [Wr.size W13]; exact Z12
      exact own_here X13 ⟨3, b10, (upd (upd (upd (fun _ => (0 : Int32)) 0 (nar .byte p2.toInt8.toInt32)) 1 (nar .byte p3.toInt8.toInt32)) 2 (nar .byte p4.toInt8.toInt32)), by decide, rfl, rfl, rfl, N13, by rw [e13]; exact Z13, gb, by rw [e13]; exact V13, fun u => by omega⟩
  refine own_bind hA ?_
  rintro T1 L1 _ _ _ X1 ⟨n, b, f, hn, rfl, rfl, rfl, N1, Z1, gb, V1, hf⟩
  have hB : Goes p l e room_1 s m #[(.int p1), (.int p2), (.int p3), (.int p4), (.int p5)] below meth c T1 (mkF m 46 #[.val (.int p1), .val (.int p2), .val (.int p3), .val (.int p4), .val (.int p5), .val (.int (Int32.ofNat n)), .val (.ref b), .unset, .unset, .unset, .unset] []) (fun T' L' k' n' g' => T' = T1 ∧ L' = L1 ∧ k' = 1 ∧ n' = 3 ∧ ∃ z : Int32, (z = 0 ∨ z = 1) ∧ g' = (mkF m 60 #[.val (.int p1), .val (.int p2), .val (.int p3), .val (.int p4), .val (.int p5), .val (.int (Int32.ofNat n)), .val (.ref b), .val (.int z), .unset, .unset, .unset] [])) := by
    refine own_st (g1 := (mkF m 48 #[.val (.int p1), .val (.int p2), .val (.int p3), .val (.int p4), .val (.int p5), .val (.int (Int32.ofNat n)), .val (.ref b), .unset, .unset, .unset, .unset] [(.int p5)])) (fun t k => XS.iload X1.here hx rfl (hb hby at_46) rfl k) ?_
    refine own_st (g1 := (mkF m 49 #[.val (.int p1), .val (.int p2), .val (.int p3), .val (.int p4), .val (.int p5), .val (.int (Int32.ofNat n)), .val (.ref b), .unset, .unset, .unset, .unset] [(.int (1 : Int32)), (.int p5)])) (fun t k => XS.iconst X1.here hx rfl (hb hby at_48) k) ?_
    refine own_st (g1 := (mkF m 50 #[.val (.int p1), .val (.int p2), .val (.int p3), .val (.int p4), .val (.int p5), .val (.int (Int32.ofNat n)), .val (.ref b), .unset, .unset, .unset, .unset] [(.int (p5 &&& (1 : Int32)))])) (fun t k => XS.iand X1.here hx rfl (hb hby at_49) rfl k) ?_
    by_cases hf1 : (p5 &&& (1 : Int32)) = (0 : Int32)
    · refine own_st (g1 := (mkF m 57 #[.val (.int p1), .val (.int p2), .val (.int p3), .val (.int p4), .val (.int p5), .val (.int (Int32.ofNat n)), .val (.ref b), .unset, .unset, .unset, .unset] [])) (fun t k => XS.ifYes X1.here hx rfl (pc0 := 50) (pc' := 57) rfl (hb hby at_50) rfl ((if0 _ _).trans (teq hf1).1) (by decide) (by decide) k) ?_
      refine own_st (g1 := (mkF m 58 #[.val (.int p1), .val (.int p2), .val (.int p3), .val (.int p4), .val (.int p5), .val (.int (Int32.ofNat n)), .val (.ref b), .unset, .unset, .unset, .unset] [(.int (0 : Int32))])) (fun t k => XS.iconst X1.here hx rfl (hb hby at_57) k) ?_
      refine own_st (g1 := (mkF m 60 #[.val (.int p1), .val (.int p2), .val (.int p3), .val (.int p4), .val (.int p5), .val (.int (Int32.ofNat n)), .val (.ref b), .val (.int (0 : Int32)), .unset, .unset, .unset] [])) (fun t k => XS.istore X1.here hx rfl (hb hby at_58) rfl (l' := #[.val (.int p1), .val (.int p2), .val (.int p3), .val (.int p4), .val (.int p5), .val (.int (Int32.ofNat n)), .val (.ref b), .val (.int (0 : Int32)), .unset, .unset, .unset]) rfl k) ?_
      exact own_here X1 ⟨rfl, rfl, rfl, rfl, 0, by decide, rfl⟩
    · refine own_st (g1 := (mkF m 53 #[.val (.int p1), .val (.int p2), .val (.int p3), .val (.int p4), .val (.int p5), .val (.int (Int32.ofNat n)), .val (.ref b), .unset, .unset, .unset, .unset] [])) (fun t k => XS.ifNo X1.here hx rfl (hb hby at_50) rfl ((if0 _ _).trans (feq hf1).1) k) ?_
      refine own_st (g1 := (mkF m 54 #[.val (.int p1), .val (.int p2), .val (.int p3), .val (.int p4), .val (.int p5), .val (.int (Int32.ofNat n)), .val (.ref b), .unset, .unset, .unset, .unset] [(.int (1 : Int32))])) (fun t k => XS.iconst X1.here hx rfl (hb hby at_53) k) ?_
      refine own_st (g1 := (mkF m 58 #[.val (.int p1), .val (.int p2), .val (.int p3), .val (.int p4), .val (.int p5), .val (.int (Int32.ofNat n)), .val (.ref b), .unset, .unset, .unset, .unset] [(.int (1 : Int32))])) (fun t k => XS.goto X1.here hx rfl (pc0 := 54) (pc' := 58) rfl (hb hby at_54) (by decide) (by decide) k) ?_
      refine own_st (g1 := (mkF m 60 #[.val (.int p1), .val (.int p2), .val (.int p3), .val (.int p4), .val (.int p5), .val (.int (Int32.ofNat n)), .val (.ref b), .val (.int (1 : Int32)), .unset, .unset, .unset] [])) (fun t k => XS.istore X1.here hx rfl (hb hby at_58) rfl (l' := #[.val (.int p1), .val (.int p2), .val (.int p3), .val (.int p4), .val (.int p5), .val (.int (Int32.ofNat n)), .val (.ref b), .val (.int (1 : Int32)), .unset, .unset, .unset]) rfl k) ?_
      exact own_here X1 ⟨rfl, rfl, rfl, rfl, 1, by decide, rfl⟩
  refine own_bind hB ?_
  rintro T2 L2 _ _ _ X2 ⟨hT, hL, rfl, rfl, z, hz, rfl⟩
  have V2 : VA Z T2.heap b .byte n (fun j => .int (f j)) := by rw [hT]; exact V1
  have N2 : Fr n0 L2 := by rw [hL]; exact N1
  have Z2 : n0 ≤ T2.heap.size := by rw [hT]; exact Z1
  refine own_st (g1 := (mkF m 62 #[.val (.int p1), .val (.int p2), .val (.int p3), .val (.int p4), .val (.int p5), .val (.int (Int32.ofNat n)), .val (.ref b), .val (.int z), .unset, .unset, .unset] [(.int z)])) (fun t k => XS.iload X2.here hx rfl (hb hby at_60) rfl k) ?_
  obtain ⟨_, _, ⟨T14, L14, k14, n14⟩, -, X14, ⟨Lc14, hQ14, l14, y14, z14⟩, st14⟩ := Jvm.LawKit.callS X2 hx (y := (⟨"com/example/concordat/concordat/kv/Commit", "result", "(Z)[B"⟩ : MethodName)) hown (mvT hZ (hw _ (List.mem_of_getElem? (i := 1) rfl))) (mvT hZ (hw _ (List.mem_of_getElem? (i := 2) rfl))) (mvT hZ (hw _ (List.mem_of_getElem? (i := 3) rfl))) (mvT hZ (hw _ (List.mem_of_getElem? (i := 4) rfl))) (by decide) (backOf (W := 0) (rm1 l Z a0 hw [] z T2.heap n0 Z2) hZ (hw _ (List.mem_of_getElem? (i := 4) rfl)) (hw _ (List.mem_of_getElem? (i := 3) rfl)) (by decide) (by decide)) (g := (mkF m 62 #[.val (.int p1), .val (.int p2), .val (.int p3), .val (.int p4), .val (.int p5), .val (.int (Int32.ofNat n)), .val (.ref b), .val (.int z), .unset, .unset, .unset] [(.int z)])) rfl (by rw [hml]; rfl) (argsL := [(.int z)]) (rest := []) (lenOf pd_0 rfl) rfl (by show 2 * 0 + _ ≤ _; exact Nat.le_of_eq rfl) (hb hby at_62) (fun _ _ => ⟨rfl, rfl, (by decide : 1 + 1 ≤ _), (by decide : 3 + 1 ≤ _)⟩)
  dsimp only [Pt.U, Pt.locs, Pt.cells, Pt.slots] at X14 l14 y14 z14 st14 hQ14
  subst l14 y14 z14
  obtain ⟨bp, rfl, Nr, gp, Kr, Vr⟩ := hQ14
  refine own_st (g1 := (mkF m 65 #[.val (.int p1), .val (.int p2), .val (.int p3), .val (.int p4), .val (.int p5), .val (.int (Int32.ofNat n)), .val (.ref b), .val (.int z), .unset, .unset, .unset] [(.ref bp)])) (st14) ?_
  have V3 := V2.keep Kr nin0
  refine own_st (g1 := (mkF m 67 #[.val (.int p1), .val (.int p2), .val (.int p3), .val (.int p4), .val (.int p5), .val (.int (Int32.ofNat n)), .val (.ref b), .val (.int z), .val (.ref bp), .unset, .unset] [])) (fun t k => XS.astore X14.here hx rfl (hb hby at_65) rfl rfl (l' := #[.val (.int p1), .val (.int p2), .val (.int p3), .val (.int p4), .val (.int p5), .val (.int (Int32.ofNat n)), .val (.ref b), .val (.int z), .val (.ref bp), .unset, .unset]) rfl k) ?_
  refine own_st (g1 := (mkF m 69 #[.val (.int p1), .val (.int p2), .val (.int p3), .val (.int p4), .val (.int p5), .val (.int (Int32.ofNat n)), .val (.ref b), .val (.int z), .val (.ref bp), .unset, .unset] [(.ref bp)])) (fun t k => XS.aload X14.here hx rfl (hb hby at_67) rfl rfl k) ?_
  obtain ⟨_, _, ⟨T15, L15, k15, n15⟩, -, X15, ⟨Lc15, hQ15, l15, y15, z15⟩, st15⟩ := Jvm.LawKit.callS X14 hx (y := (⟨"com/example/concordat/concordat/kv/Commit", "committed", "([B)Z"⟩ : MethodName)) hown (mvT hZ (hw _ (List.mem_of_getElem? (i := 5) rfl))) (mvT hZ (hw _ (List.mem_of_getElem? (i := 6) rfl))) (mvT hZ (hw _ (List.mem_of_getElem? (i := 3) rfl))) (mvT hZ (hw _ (List.mem_of_getElem? (i := 7) rfl))) (by decide) (backOf (W := 0) (rm2 l Z a0 hw [] bp 1 (fun _ => if z = 0 then 2 else 1) T14.heap n0 (by decide) Vr) hZ (hw _ (List.mem_of_getElem? (i := 7) rfl)) (hw _ (List.mem_of_getElem? (i := 3) rfl)) (by decide) (by decide)) (g := (mkF m 69 #[.val (.int p1), .val (.int p2), .val (.int p3), .val (.int p4), .val (.int p5), .val (.int (Int32.ofNat n)), .val (.ref b), .val (.int z), .val (.ref bp), .unset, .unset] [(.ref bp)])) rfl (by rw [hml]; rfl) (argsL := [(.ref bp)]) (rest := []) (lenOf pd_1 rfl) rfl (by show 2 * 0 + _ ≤ _; exact Nat.le_of_eq rfl) (hb hby at_69) (fun _ _ => ⟨rfl, rfl, (by decide : 1 + 1 + 0 ≤ _), (by decide : 3 + 1 + 0 ≤ _)⟩)
  dsimp only [Pt.U, Pt.locs, Pt.cells, Pt.slots] at X15 l15 y15 z15 st15 hQ15
  subst l15 y15 z15
  obtain ⟨rfl, Nc, hh⟩ := hQ15
  refine own_st (g1 := (mkF m 72 #[.val (.int p1), .val (.int p2), .val (.int p3), .val (.int p4), .val (.int p5), .val (.int (Int32.ofNat n)), .val (.ref b), .val (.int z), .val (.ref bp), .unset, .unset] [(.int (own_cm 1 (if z = 0 then 2 else 1)))])) (st15) ?_
  have V4 : VA Z T15.heap b .byte n (fun j => .int (f j)) := by rw [hh]; exact V3
  have hz1 : own_cm 1 (if z = 0 then 2 else 1) = z := by rcases hz with rfl | rfl <;> decide
  refine own_st (g1 := (mkF m 74 #[.val (.int p1), .val (.int p2), .val (.int p3), .val (.int p4), .val (.int p5), .val (.int (Int32.ofNat n)), .val (.ref b), .val (.int z), .val (.ref bp), .unset, .unset] [(.int z), (.int (own_cm 1 (if z = 0 then 2 else 1)))])) (fun t k => XS.iload X15.here hx rfl (hb hby at_72) rfl k) ?_
  refine own_st (g1 := (mkF m 77 #[.val (.int p1), .val (.int p2), .val (.int p3), .val (.int p4), .val (.int p5), .val (.int (Int32.ofNat n)), .val (.ref b), .val (.int z), .val (.ref bp), .unset, .unset] [])) (fun t k => XS.icmpNo X15.here hx rfl (hb hby at_74) rfl (teq hz1).2 k) ?_
  refine own_st (g1 := (mkF m 78 #[.val (.int p1), .val (.int p2), .val (.int p3), .val (.int p4), .val (.int p5), .val (.int (Int32.ofNat n)), .val (.ref b), .val (.int z), .val (.ref bp), .unset, .unset] [(.int (1 : Int32))])) (fun t k => XS.iconst X15.here hx rfl (hb hby at_77) k) ?_
  refine own_st (g1 := (mkF m 82 #[.val (.int p1), .val (.int p2), .val (.int p3), .val (.int p4), .val (.int p5), .val (.int (Int32.ofNat n)), .val (.ref b), .val (.int z), .val (.ref bp), .unset, .unset] [(.int (1 : Int32))])) (fun t k => XS.goto X15.here hx rfl (pc0 := 78) (pc' := 82) rfl (hb hby at_78) (by decide) (by decide) k) ?_
  refine own_st (g1 := (mkF m 84 #[.val (.int p1), .val (.int p2), .val (.int p3), .val (.int p4), .val (.int p5), .val (.int (Int32.ofNat n)), .val (.ref b), .val (.int z), .val (.ref bp), .val (.int (1 : Int32)), .unset] [])) (fun t k => XS.istore X15.here hx rfl (hb hby at_82) rfl (l' := #[.val (.int p1), .val (.int p2), .val (.int p3), .val (.int p4), .val (.int p5), .val (.int (Int32.ofNat n)), .val (.ref b), .val (.int z), .val (.ref bp), .val (.int (1 : Int32)), .unset]) rfl k) ?_
  have hC : Goes p l e room_1 s m #[(.int p1), (.int p2), (.int p3), (.int p4), (.int p5)] below meth c T15 (mkF m 84 #[.val (.int p1), .val (.int p2), .val (.int p3), .val (.int p4), .val (.int p5), .val (.int (Int32.ofNat n)), .val (.ref b), .val (.int z), .val (.ref bp), .val (.int (1 : Int32)), .unset] []) (fun T' L' k' n' g' => T' = T15 ∧ k' = 2 ∧ n' = 4 ∧ Fr n0 L' ∧ g' = (mkF m 106 #[.val (.int p1), .val (.int p2), .val (.int p3), .val (.int p4), .val (.int p5), .val (.int (Int32.ofNat n)), .val (.ref b), .val (.int z), .val (.ref bp), .val (.int (1 : Int32)), .val (.int (own_cm n (f 0)))] [])) := by
    refine own_st (g1 := (mkF m 86 #[.val (.int p1), .val (.int p2), .val (.int p3), .val (.int p4), .val (.int p5), .val (.int (Int32.ofNat n)), .val (.ref b), .val (.int z), .val (.ref bp), .val (.int (1 : Int32)), .unset] [(.int (Int32.ofNat n))])) (fun t k => XS.iload X15.here hx rfl (hb hby at_84) rfl k) ?_
    refine own_st (g1 := (mkF m 87 #[.val (.int p1), .val (.int p2), .val (.int p3), .val (.int p4), .val (.int p5), .val (.int (Int32.ofNat n)), .val (.ref b), .val (.int z), .val (.ref bp), .val (.int (1 : Int32)), .unset] [(.int (1 : Int32)), (.int (Int32.ofNat n))])) (fun t k => XS.iconst X15.here hx rfl (hb hby at_86) k) ?_
    by_cases h1 : (Int32.ofNat n) = (1 : Int32)
    · refine own_st (g1 := (mkF m 90 #[.val (.int p1), .val (.int p2), .val (.int p3), .val (.int p4), .val (.int p5), .val (.int (Int32.ofNat n)), .val (.ref b), .val (.int z), .val (.ref bp), .val (.int (1 : Int32)), .unset] [])) (fun t k => XS.icmpNo X15.here hx rfl (hb hby at_87) rfl (teq h1).2 k) ?_
      have e1 : n = 1 := (own_eq (j := 1) (by omega) (by omega)).mp h1
      have ef := hf e1
      refine own_st (g1 := (mkF m 91 #[.val (.int p1), .val (.int p2), .val (.int p3), .val (.int p4), .val (.int p5), .val (.int (Int32.ofNat n)), .val (.ref b), .val (.int z), .val (.ref bp), .val (.int (1 : Int32)), .unset] [(.int p2)])) (fun t k => XS.iloadN X15.here hx rfl (hb hby at_90) rfl k) ?_
      refine own_st (g1 := (mkF m 94 #[.val (.int p1), .val (.int p2), .val (.int p3), .val (.int p4), .val (.int p5), .val (.int (Int32.ofNat n)), .val (.ref b), .val (.int z), .val (.ref bp), .val (.int (1 : Int32)), .unset] [(.int (255 : Int32)), (.int p2)])) (fun t k => XS.sipush X15.here hx rfl (hb hby at_91) k) ?_
      refine own_st (g1 := (mkF m 95 #[.val (.int p1), .val (.int p2), .val (.int p3), .val (.int p4), .val (.int p5), .val (.int (Int32.ofNat n)), .val (.ref b), .val (.int z), .val (.ref bp), .val (.int (1 : Int32)), .unset] [(.int (p2 &&& (255 : Int32)))])) (fun t k => XS.iand X15.here hx rfl (hb hby at_94) rfl k) ?_
      refine own_st (g1 := (mkF m 96 #[.val (.int p1), .val (.int p2), .val (.int p3), .val (.int p4), .val (.int p5), .val (.int (Int32.ofNat n)), .val (.ref b), .val (.int z), .val (.ref bp), .val (.int (1 : Int32)), .unset] [(.int (1 : Int32)), (.int (p2 &&& (255 : Int32)))])) (fun t k => XS.iconst X15.here hx rfl (hb hby at_95) k) ?_
      by_cases h2 : (p2 &&& (255 : Int32)) = (1 : Int32)
      · refine own_st (g1 := (mkF m 99 #[.val (.int p1), .val (.int p2), .val (.int p3), .val (.int p4), .val (.int p5), .val (.int (Int32.ofNat n)), .val (.ref b), .val (.int z), .val (.ref bp), .val (.int (1 : Int32)), .unset] [])) (fun t k => XS.icmpNo X15.here hx rfl (hb hby at_96) rfl (teq h2).2 k) ?_
        refine own_st (g1 := (mkF m 100 #[.val (.int p1), .val (.int p2), .val (.int p3), .val (.int p4), .val (.int p5), .val (.int (Int32.ofNat n)), .val (.ref b), .val (.int z), .val (.ref bp), .val (.int (1 : Int32)), .unset] [(.int (1 : Int32))])) (fun t k => XS.iconst X15.here hx rfl (hb hby at_99) k) ?_
        refine own_st (g1 := (mkF m 104 #[.val (.int p1), .val (.int p2), .val (.int p3), .val (.int p4), .val (.int p5), .val (.int (Int32.ofNat n)), .val (.ref b), .val (.int z), .val (.ref bp), .val (.int (1 : Int32)), .unset] [(.int (1 : Int32))])) (fun t k => XS.goto X15.here hx rfl (pc0 := 100) (pc' := 104) rfl (hb hby at_100) (by decide) (by decide) k) ?_
        have q : (1 : Int32) = own_cm n (f 0) := by unfold own_cm; rw [if_pos ⟨e1, ef.trans ((own_byte p2).mpr h2)⟩]
        refine own_st (g1 := (mkF m 106 #[.val (.int p1), .val (.int p2), .val (.int p3), .val (.int p4), .val (.int p5), .val (.int (Int32.ofNat n)), .val (.ref b), .val (.int z), .val (.ref bp), .val (.int (1 : Int32)), .val (.int (1 : Int32))] [])) (fun t k => XS.istore X15.here hx rfl (hb hby at_104) rfl (l' := #[.val (.int p1), .val (.int p2), .val (.int p3), .val (.int p4), .val (.int p5), .val (.int (Int32.ofNat n)), .val (.ref b), .val (.int z), .val (.ref bp), .val (.int (1 : Int32)), .val (.int (1 : Int32))]) rfl k) ?_
        exact own_here X15 ⟨rfl, rfl, rfl, (Fr.app (Fr.app N2 Nr) Nc), by rw [← q]⟩
      · refine own_st (g1 := (mkF m 103 #[.val (.int p1), .val (.int p2), .val (.int p3), .val (.int p4), .val (.int p5), .val (.int (Int32.ofNat n)), .val (.ref b), .val (.int z), .val (.ref bp), .val (.int (1 : Int32)), .unset] [])) (fun t k => XS.icmpYes X15.here hx rfl (pc0 := 96) (pc' := 103) rfl (hb hby at_96) rfl (feq h2).2 (by decide) (by decide) k) ?_
        refine own_st (g1 := (mkF m 104 #[.val (.int p1), .val (.int p2), .val (.int p3), .val (.int p4), .val (.int p5), .val (.int (Int32.ofNat n)), .val (.ref b), .val (.int z), .val (.ref bp), .val (.int (1 : Int32)), .unset] [(.int (0 : Int32))])) (fun t k => XS.iconst X15.here hx rfl (hb hby at_103) k) ?_
        have q : (0 : Int32) = own_cm n (f 0) := by unfold own_cm; rw [if_neg (fun u => h2 ((own_byte p2).mp (ef.symm.trans u.2)))]
        refine own_st (g1 := (mkF m 106 #[.val (.int p1), .val (.int p2), .val (.int p3), .val (.int p4), .val (.int p5), .val (.int (Int32.ofNat n)), .val (.ref b), .val (.int z), .val (.ref bp), .val (.int (1 : Int32)), .val (.int (0 : Int32))] [])) (fun t k => XS.istore X15.here hx rfl (hb hby at_104) rfl (l' := #[.val (.int p1), .val (.int p2), .val (.int p3), .val (.int p4), .val (.int p5), .val (.int (Int32.ofNat n)), .val (.ref b), .val (.int z), .val (.ref bp), .val (.int (1 : Int32)), .val (.int (0 : Int32))]) rfl k) ?_
        exact own_here X15 ⟨rfl, rfl, rfl, (Fr.app (Fr.app N2 Nr) Nc), by rw [← q]⟩
    · refine own_st (g1 := (mkF m 103 #[.val (.int p1), .val (.int p2), .val (.int p3), .val (.int p4), .val (.int p5), .val (.int (Int32.ofNat n)), .val (.ref b), .val (.int z), .val (.ref bp), .val (.int (1 : Int32)), .unset] [])) (fun t k => XS.icmpYes X15.here hx rfl (pc0 := 87) (pc' := 103) rfl (hb hby at_87) rfl (feq h1).2 (by decide) (by decide) k) ?_
      have e1 : ¬ n = 1 := fun u => h1 (by rw [u]; rfl)
      refine own_st (g1 := (mkF m 104 #[.val (.int p1), .val (.int p2), .val (.int p3), .val (.int p4), .val (.int p5), .val (.int (Int32.ofNat n)), .val (.ref b), .val (.int z), .val (.ref bp), .val (.int (1 : Int32)), .unset] [(.int (0 : Int32))])) (fun t k => XS.iconst X15.here hx rfl (hb hby at_103) k) ?_
      have q : (0 : Int32) = own_cm n (f 0) := by unfold own_cm; rw [if_neg (fun u => e1 u.1)]
      refine own_st (g1 := (mkF m 106 #[.val (.int p1), .val (.int p2), .val (.int p3), .val (.int p4), .val (.int p5), .val (.int (Int32.ofNat n)), .val (.ref b), .val (.int z), .val (.ref bp), .val (.int (1 : Int32)), .val (.int (0 : Int32))] [])) (fun t k => XS.istore X15.here hx rfl (hb hby at_104) rfl (l' := #[.val (.int p1), .val (.int p2), .val (.int p3), .val (.int p4), .val (.int p5), .val (.int (Int32.ofNat n)), .val (.ref b), .val (.int z), .val (.ref bp), .val (.int (1 : Int32)), .val (.int (0 : Int32))]) rfl k) ?_
      exact own_here X15 ⟨rfl, rfl, rfl, (Fr.app (Fr.app N2 Nr) Nc), by rw [← q]⟩
  refine own_bind hC ?_
  rintro T5 L5 _ _ _ X5 ⟨hT5, rfl, rfl, N5, rfl⟩
  have V5 : VA Z T5.heap b .byte n (fun j => .int (f j)) := by rw [hT5]; exact V4
  refine own_st (g1 := (mkF m 108 #[.val (.int p1), .val (.int p2), .val (.int p3), .val (.int p4), .val (.int p5), .val (.int (Int32.ofNat n)), .val (.ref b), .val (.int z), .val (.ref bp), .val (.int (1 : Int32)), .val (.int (own_cm n (f 0)))] [(.int (1 : Int32))])) (fun t k => XS.iload X5.here hx rfl (hb hby at_106) rfl k) ?_
  refine own_st (g1 := (mkF m 111 #[.val (.int p1), .val (.int p2), .val (.int p3), .val (.int p4), .val (.int p5), .val (.int (Int32.ofNat n)), .val (.ref b), .val (.int z), .val (.ref bp), .val (.int (1 : Int32)), .val (.int (own_cm n (f 0)))] [])) (fun t k => XS.ifNo X5.here hx rfl (hb hby at_108) rfl ((if0 _ _).trans (feq (by decide)).1) k) ?_
  refine own_st (g1 := (mkF m 113 #[.val (.int p1), .val (.int p2), .val (.int p3), .val (.int p4), .val (.int p5), .val (.int (Int32.ofNat n)), .val (.ref b), .val (.int z), .val (.ref bp), .val (.int (1 : Int32)), .val (.int (own_cm n (f 0)))] [(.ref b)])) (fun t k => XS.aload X5.here hx rfl (hb hby at_111) rfl rfl k) ?_
  obtain ⟨_, _, ⟨T16, L16, k16, n16⟩, -, X16, ⟨Lc16, hQ16, l16, y16, z16⟩, st16⟩ := Jvm.LawKit.callS X5 hx (y := (⟨"com/example/concordat/concordat/kv/Commit", "committed", "([B)Z"⟩ : MethodName)) hown (mvT hZ (hw _ (List.mem_of_getElem? (i := 5) rfl))) (mvT hZ (hw _ (List.mem_of_getElem? (i := 6) rfl))) (mvT hZ (hw _ (List.mem_of_getElem? (i := 3) rfl))) (mvT hZ (hw _ (List.mem_of_getElem? (i := 7) rfl))) (by decide) (backOf (W := 0) (rm2 l Z a0 hw [] b n f T5.heap n0 hn V5) hZ (hw _ (List.mem_of_getElem? (i := 7) rfl)) (hw _ (List.mem_of_getElem? (i := 3) rfl)) (by decide) (by decide)) (g := (mkF m 113 #[.val (.int p1), .val (.int p2), .val (.int p3), .val (.int p4), .val (.int p5), .val (.int (Int32.ofNat n)), .val (.ref b), .val (.int z), .val (.ref bp), .val (.int (1 : Int32)), .val (.int (own_cm n (f 0)))] [(.ref b)])) rfl (by rw [hml]; rfl) (argsL := [(.ref b)]) (rest := []) (lenOf pd_1 rfl) rfl (by show 2 * 0 + _ ≤ _; exact Nat.le_of_eq rfl) (hb hby at_113) (fun _ _ => ⟨rfl, rfl, (by decide : 2 + 0 ≤ _), (by decide : 4 + 0 ≤ _)⟩)
  dsimp only [Pt.U, Pt.locs, Pt.cells, Pt.slots] at X16 l16 y16 z16 st16 hQ16
  subst l16 y16 z16
  obtain ⟨rfl, Nd, hh6⟩ := hQ16
  refine own_st (g1 := (mkF m 116 #[.val (.int p1), .val (.int p2), .val (.int p3), .val (.int p4), .val (.int p5), .val (.int (Int32.ofNat n)), .val (.ref b), .val (.int z), .val (.ref bp), .val (.int (1 : Int32)), .val (.int (own_cm n (f 0)))] [(.int (own_cm n (f 0)))])) (st16) ?_
  refine own_st (g1 := (mkF m 118 #[.val (.int p1), .val (.int p2), .val (.int p3), .val (.int p4), .val (.int p5), .val (.int (Int32.ofNat n)), .val (.ref b), .val (.int z), .val (.ref bp), .val (.int (1 : Int32)), .val (.int (own_cm n (f 0)))] [(.int (own_cm n (f 0))), (.int (own_cm n (f 0)))])) (fun t k => XS.iload X16.here hx rfl (hb hby at_116) rfl k) ?_
  refine own_st (g1 := (mkF m 121 #[.val (.int p1), .val (.int p2), .val (.int p3), .val (.int p4), .val (.int p5), .val (.int (Int32.ofNat n)), .val (.ref b), .val (.int z), .val (.ref bp), .val (.int (1 : Int32)), .val (.int (own_cm n (f 0)))] [])) (fun t k => XS.icmpNo X16.here hx rfl (hb hby at_118) rfl (teq rfl).2 k) ?_
  refine own_st (g1 := (mkF m 122 #[.val (.int p1), .val (.int p2), .val (.int p3), .val (.int p4), .val (.int p5), .val (.int (Int32.ofNat n)), .val (.ref b), .val (.int z), .val (.ref bp), .val (.int (1 : Int32)), .val (.int (own_cm n (f 0)))] [(.int (1 : Int32))])) (fun t k => XS.iconst X16.here hx rfl (hb hby at_121) k) ?_
  refine own_st (g1 := (mkF m 126 #[.val (.int p1), .val (.int p2), .val (.int p3), .val (.int p4), .val (.int p5), .val (.int (Int32.ofNat n)), .val (.ref b), .val (.int z), .val (.ref bp), .val (.int (1 : Int32)), .val (.int (own_cm n (f 0)))] [(.int (1 : Int32))])) (fun t k => XS.goto X16.here hx rfl (pc0 := 122) (pc' := 126) rfl (hb hby at_122) (by decide) (by decide) k) ?_
  exact own_here X16 ⟨126, _, _, rfl, (hb hby at_126), rfl, (by decide), (by decide), ⟨rfl, Fr.app N5 Nd⟩⟩
set_option maxRecDepth 65536 in
set_option maxHeartbeats 40000000 in
theorem comes_1 {Post : Tables → Env → Array Value → State → Outcome → State → Prop} (hpost : ∀ tb e args s v u, (limb_1_1.after args s (.returned v) u = true ∧ limb_1_2.after args s (.returned v) u = true ∧ True) → FrameEnd s (.returned v) u (Jvm.fieldLocs frame_1_writes args s ++ Jvm.arrayLocs frame_1_arrays args s ++ Jvm.staticLocs frame_1_statics s) 16 128 → Post tb e args s (.returned v) u) :
    ArmFor flags0 classFile x code maxLocals ret World_1 tables_1 room_1 Calls_1 rest_1 Pre_1 Post := by
  intro l hfl _ _ p e ha hc hk s m args below hf hA hF happ hP
  obtain ⟨hcalls, hrest, hpre⟩ := hP
  obtain ⟨-, -, -, hnamed, -, -, -, hat⟩ := (Spec.applies_iff hf).mp happ
  obtain ⟨hg, hn⟩ := and_e (Cond.before_iff.mp (show (Jvm.Cond.and given_1 narrow_1).before args s = true from hpre))
  obtain ⟨gc, g0⟩ := and_e hg
  obtain ⟨a0, g1⟩ := and_e g0
  obtain ⟨a1, g2⟩ := and_e g1
  obtain ⟨a2, g3⟩ := and_e g2
  obtain ⟨a3, g4⟩ := and_e g3
  have a4 := g4
  obtain ⟨w0, w1, w2, w3, w4, rfl⟩ : ∃ w0 w1 w2 w3 w4 : Value, args = #[w0, w1, w2, w3, w4] := by
    have hs : args.size = 5 := by simpa [Cond.value, given_1] using gc
    obtain ⟨L⟩ := args
    match L, hs with
    | [w0, w1, w2, w3, w4], _ => exact ⟨w0, w1, w2, w3, w4, rfl⟩
  have hw := fun d (hd : d ∈ tables_1) => atoms_spec (ws := Jvm.Cond.code x code maxLocals ret :: tables_1) hat d (List.mem_cons_of_mem _ hd)
  obtain ⟨i0, ei0⟩ := is_v a0
  obtain rfl : w0 = (.int i0) := Option.some.inj ei0
  obtain ⟨i1, ei1⟩ := is_v a1
  obtain rfl : w1 = (.int i1) := Option.some.inj ei1
  obtain ⟨i2, ei2⟩ := is_v a2
  obtain rfl : w2 = (.int i2) := Option.some.inj ei2
  obtain ⟨i3, ei3⟩ := is_v a3
  obtain rfl : w3 = (.int i3) := Option.some.inj ei3
  obtain ⟨i4, ei4⟩ := is_v a4
  obtain rfl : w4 = (.int i4) := Option.some.inj ei4
  obtain ⟨n, o, h1, h2, h3, _, L, rfl, ⟨rfl, N⟩, hq⟩ := rm0 l s _ hw tables_1 i0 i1 i2 i3 i4 s.heap s.heap.size (Nat.le_refl _) p e ha hc hk s m _ below hf ((Spec.applies_iff_loose hf).mp happ).1 ⟨rfl, State.Warmed39.refl s, rfl⟩ trivial
  refine ⟨n, _, h1, h2, h3, hpost _ _ _ _ _ _ ⟨Cond.after_iff.mpr rfl, Cond.after_iff.mpr (eq_i res_at (Term.int_eval (1)) rfl), trivial⟩ ⟨hq.1, hq.2.1, (hq.2.2.sift fun y hy => Or.inr (N y hy)).mono (by decide) (by decide)⟩⟩
theorem main_1_1 : Claimed_1_1 := comes_1 fun _ _ _ _ _ _ h hF => ⟨h.1, hF⟩
theorem main_1_2 : Claimed_1_2 := comes_1 fun _ _ _ _ _ _ h hF => ⟨h.2.1, hF⟩
end Jvm.Pilot.@@N@@
namespace Jvm.Pilot.@@N@@
open Jvm Jvm.ClassFile Sem Op Lib Jvm.Free Jvm.Stand Jvm.Pilot.@@N@@.Jvm.D
/-! MADE BY PROGRAM (witnessworld.py) out of the Statement's table words and the real class files: 10 classes; the members and pool entries that the words name. The judged class is class 1, her method 1. -/
namespace start1
open Jvm.ClassFile
def u (s : String) : CpInfo := .utf8 (stringToUtf16 s)
/-- a pool by its gaps: so many unusable entries, then the entry; so many at the end -/
def gap : Nat → List CpInfo → List CpInfo
  | 0, r => r
  | n + 1, r => .unusable :: gap n r
def poolList (es : List (Nat × CpInfo)) (last : Nat) : List CpInfo := es.foldr (fun e r => gap e.1 (e.2 :: r)) (gap last [])
def pool (es : List (Nat × CpInfo)) (last : Nat) : Array CpInfo := ⟨poolList es last⟩
def fileOf (pool : Array CpInfo) (this : Nat) (attrs : Array Attribute := #[]) (ms : Array MethodInfo := #[]) (fl : Nat := 33) (sup : Nat := 0) (ifs : Array Nat := #[]) (fds : Array FieldInfo := #[]) : ClassFile where
  minorVersion := 0
  majorVersion := 65
  constantPool := pool
  accessFlags := fl
  thisClass := this
  superClass := sup
  interfaces := ifs
  fields := fds
  methods := ms
  attributes := attrs
def plain (name : String) (sup : Option ClassId) : Class where
  name := name
  kind := .ordinary
  loader := none
  accessFlags := 33
  super := sup
  interfaces := #[]
  cf := none
  fields := #[]
  methods := #[]
  instanceTypes := #[]
  staticTypes := #[]
  resolved := #[]
  callSites := []
  init := .initialized
  statics := none
  mirror := none

def pool0 : Array CpInfo := pool [(5, u "<init>"), (0, u "()V"), (1, .class_ 10), (1, u "java/lang/Object")] 113

def k0m0 : Method := { name := "<init>", desc := "()V", sig := { parameters := [], returnType := none }, accessFlags := 1, code := none }
/-- java/lang/Object -/
def k0 : Class := { plain "java/lang/Object" none with
  accessFlags := 33
  interfaces := #[]
  cf := some (fileOf pool0 8 #[] #[{ accessFlags := 1, nameIndex := 5, descriptorIndex := 6, attributes := #[] }] 33 0 #[] #[])
  fields := #[]
  methods := #[k0m0]
  instanceTypes := #[]
  staticTypes := #[]
  resolved := Array.replicate 124 none
  statics := none }

def pool1 : Array CpInfo := pool [(2, .class_ 4), (1, u "java/lang/Object"), (0, u "<init>"), (0, u "()V"), (0, .methodref 8 9), (0, .class_ 10), (0, .nameAndType 11 12), (0, u "com/example/concordat/concordat/kv/Commit"), (0, u "result"), (0, u "(Z)[B"), (0, .methodref 8 14), (0, .nameAndType 15 16), (0, u "committed"), (0, u "([B)Z"), (0, .class_ 18), (0, u "com/example/concordat/concordat/kv/CommitCommittedPinLaw"), (2, u "law"), (0, u "(IIIII)Z")] 5

def k1m0 : Method := { name := "<init>", desc := "()V", sig := { parameters := [], returnType := none }, accessFlags := 1, code := none }
def k1c1 : Code := { maxStack := 3, maxLocals := 11, code := code, exceptionTable := #[], attributes := #[] }
def k1m1 : Method := { name := "law", desc := "(IIIII)Z", sig := { parameters := [.int, .int, .int, .int, .int], returnType := some .boolean }, accessFlags := 9, code := some k1c1 }
/-- com/example/concordat/concordat/kv/CommitCommittedPinLaw -/
def k1 : Class := { plain "com/example/concordat/concordat/kv/CommitCommittedPinLaw" (some 0) with
  accessFlags := 49
  interfaces := #[]
  cf := some (fileOf pool1 17 #[] #[{ accessFlags := 1, nameIndex := 5, descriptorIndex := 6, attributes := #[] }, { accessFlags := 9, nameIndex := 21, descriptorIndex := 22, attributes := #[] }] 49 2 #[] #[])
  fields := #[]
  methods := #[k1m0, k1m1]
  instanceTypes := #[]
  staticTypes := #[]
  resolved := Array.replicate 28 none
  statics := none }

def pool2 : Array CpInfo := pool [(2, .class_ 4), (1, u "java/lang/Object"), (0, u "<init>"), (0, u "()V"), (0, .class_ 8), (0, u "java/lang/Record")] 13

def k2m0 : Method := { name := "<init>", desc := "()V", sig := { parameters := [], returnType := none }, accessFlags := 4, code := none }
/-- java/lang/Record -/
def k2 : Class := { plain "java/lang/Record" (some 0) with
  accessFlags := 1057
  interfaces := #[]
  cf := some (fileOf pool2 7 #[] #[{ accessFlags := 4, nameIndex := 5, descriptorIndex := 6, attributes := #[] }] 1057 2 #[] #[])
  fields := #[]
  methods := #[k2m0]
  instanceTypes := #[]
  staticTypes := #[]
  resolved := Array.replicate 22 none
  statics := none }

def pool3 : Array CpInfo := pool [(2, .class_ 4), (1, u "java/lang/Record"), (3, .class_ 10), (1, u "com/example/concordat/concordat/kv/Commit"), (0, u "readIndex"), (0, u "J"), (2, u "reads"), (0, u "Ljava/util/List;"), (2, u "prefixes"), (2, u "writes"), (136, u "EMPTY_BYTES"), (0, u "I"), (2, u "COMMITTED"), (0, u "B"), (1, u "CONFLICT"), (5, u "committed"), (0, u "([B)Z"), (1, u "result"), (0, u "(Z)[B")] 30

def k3c0 : Code := { maxStack := 2, maxLocals := 1, code := prog_29_method_2_code, exceptionTable := #[], attributes := #[] }
def k3m0 : Method := { name := "committed", desc := "([B)Z", sig := { parameters := [(.array .byte)], returnType := some .boolean }, accessFlags := 9, code := some k3c0 }
def k3c1 : Code := { maxStack := 4, maxLocals := 1, code := prog_29_method_3_code, exceptionTable := #[], attributes := #[] }
def k3m1 : Method := { name := "result", desc := "(Z)[B", sig := { parameters := [.boolean], returnType := some (.array .byte) }, accessFlags := 8, code := some k3c1 }
/-- com/example/concordat/concordat/kv/Commit -/
def k3 : Class := { plain "com/example/concordat/concordat/kv/Commit" (some 2) with
  accessFlags := 49
  interfaces := #[]
  cf := some (fileOf pool3 8 #[] #[{ accessFlags := 9, nameIndex := 172, descriptorIndex := 173, attributes := #[] }, { accessFlags := 8, nameIndex := 175, descriptorIndex := 176, attributes := #[] }] 49 2 #[] #[{ accessFlags := 18, nameIndex := 11, descriptorIndex := 12, attributes := #[] }, { accessFlags := 18, nameIndex := 15, descriptorIndex := 16, attributes := #[] }, { accessFlags := 18, nameIndex := 19, descriptorIndex := 16, attributes := #[] }, { accessFlags := 18, nameIndex := 22, descriptorIndex := 16, attributes := #[] }, { accessFlags := 24, nameIndex := 159, descriptorIndex := 160, attributes := #[] }, { accessFlags := 26, nameIndex := 163, descriptorIndex := 164, attributes := #[] }, { accessFlags := 26, nameIndex := 166, descriptorIndex := 164, attributes := #[] }])
  fields := #[{ name := "readIndex", type := .long, accessFlags := 18, slot := 0, constantValue := 0 }, { name := "reads", type := (.object "java/util/List"), accessFlags := 18, slot := 1, constantValue := 0 }, { name := "prefixes", type := (.object "java/util/List"), accessFlags := 18, slot := 2, constantValue := 0 }, { name := "writes", type := (.object "java/util/List"), accessFlags := 18, slot := 3, constantValue := 0 }, { name := "EMPTY_BYTES", type := .int, accessFlags := 24, slot := 0, constantValue := 0 }, { name := "COMMITTED", type := .byte, accessFlags := 26, slot := 1, constantValue := 0 }, { name := "CONFLICT", type := .byte, accessFlags := 26, slot := 2, constantValue := 0 }]
  methods := #[k3m0, k3m1]
  instanceTypes := #[.long, (.object "java/util/List"), (.object "java/util/List"), (.object "java/util/List")]
  staticTypes := #[.int, .byte, .byte]
  resolved := Array.replicate 207 none
  statics := none }

def pool4 : Array CpInfo := pool [(1, u "java/lang/Cloneable"), (0, .class_ 1), (0, u "java/lang/Object"), (0, .class_ 3)] 3

/-- java/lang/Cloneable -/
def k4 : Class := { plain "java/lang/Cloneable" (some 0) with
  accessFlags := 1537
  interfaces := #[]
  cf := some (fileOf pool4 2 #[] #[] 1537 4 #[] #[])
  fields := #[]
  methods := #[]
  instanceTypes := #[]
  staticTypes := #[]
  resolved := Array.replicate 8 none
  statics := none }

def pool5 : Array CpInfo := pool [(1, u "java/io/Serializable"), (0, .class_ 1), (0, u "java/lang/Object"), (0, .class_ 3)] 3

/-- java/io/Serializable -/
def k5 : Class := { plain "java/io/Serializable" (some 0) with
  accessFlags := 1537
  interfaces := #[]
  cf := some (fileOf pool5 2 #[] #[] 1537 4 #[] #[])
  fields := #[]
  methods := #[]
  instanceTypes := #[]
  staticTypes := #[]
  resolved := Array.replicate 8 none
  statics := none }

/-- the primitive byte -/
def k6 : Class := { plain "byte" none with kind := .primitive 'B', accessFlags := 0x411 }
/-- [B -/
def k7 : Class := { plain "[B" (some 0) with kind := .array 6 .byte, interfaces := #[4, 5], accessFlags := 1041 }

/-- the primitive int -/
def k8 : Class := { plain "int" none with kind := .primitive 'I', accessFlags := 0x411 }
/-- [I -/
def k9 : Class := { plain "[I" (some 0) with kind := .array 8 .int, interfaces := #[4, 5], accessFlags := 1041 }

def heap : Heap := #[]
def classes : Array Class := #[k0, k1, k2, k3, k4, k5, k6, k7, k8, k9]
def interned : List (Array UInt16 × Addr) := []
def slotsUsed : Nat := 0
def theMethod : MethodId := ⟨1, 1⟩
def args0 : Array Value := #[.int 1, .int 1, .int 2, .int 3, .int 1]
def aboutOver (below : List Frame) : State where
  vm := { classes := classes, interned := interned.toArray }
  heap := heap
  slotsUsed := slotsUsed
  threads := #[{ frames := .invoking theMethod args0 :: below }]
def below0 : List Frame := [.native { method := ⟨0, 0⟩, args := #[] }]
def about1 : State := aboutOver below0
def p0 : Program := .bare "" "" ""
def e0 : Env := launch0.env 0 0 0
theorem w_frames : about1.frames = Frame.invoking theMethod args0 :: below0 := rfl
set_option maxRecDepth 65536 in
theorem w_args : argsFit about1.vm theMethod args0 = true := by decide +kernel
set_option maxRecDepth 65536 in
theorem w_heap : heapFits about1 = true := by decide +kernel
set_option maxRecDepth 65536 in
theorem w_runnable : about1.curStatus? = some .runnable := by decide +kernel
set_option maxRecDepth 65536 in
theorem w_alone : about1.alone = true := by decide +kernel
set_option maxRecDepth 65536 in
theorem w_named : about1.methodNamed? x = some theMethod := by decide +kernel
set_option maxRecDepth 65536 in
theorem w_hears : about1.hears theMethod below0 = true := by decide +kernel
set_option maxRecDepth 65536 in
theorem w_ripe : about1.ripe theMethod args0 below0 = true := by decide +kernel
theorem w_running : about1.status = .running := rfl
set_option maxRecDepth 65536 in
theorem w_room : about1.hasRoom e0.platform room_1 = true :=
  launch0.hasRoom_least _ room_1 (by decide +kernel) (by decide +kernel) (by decide +kernel) (by decide +kernel) (by decide +kernel) (by decide +kernel)
theorem allAtoms_all (ts : List Jvm.Cond) (a : Array Jvm.Value) (st : Jvm.State) : (allAtoms ts).before a st = ts.all (fun c => c.before a st) := by
  induction ts with
  | nil => rfl
  | cons c t ih =>
    show (Jvm.Cond.and c (allAtoms t)).before a st = _
    rw [Jvm.Cond.before_and, ih, List.all_cons]
def words1 : List Jvm.Cond := Jvm.Cond.code x code maxLocals ret :: tables_1
/-- a 'code' word, met by the world's own term for the bytes: nothing is compared byte by byte -/
theorem code_word {y : MethodName} {bytes : ByteArray} {mx : Nat} {rt : Option FieldType} {a : Array Value} {s : State} {m : MethodId} {meth : Method} {c : Code} (h1 : s.methodNamed? y = some m) (h2 : s.vm.method? m = some meth) (h3 : meth.code = some c) (h4 : c.code = bytes)
    (h5 : (c.maxLocals == mx && c.exceptionTable.isEmpty && decide (c.maxStack ≤ mostOperands) && decide (meth.sig.returnType = rt) && !meth.locks && decide (parseMethodDescriptor y.desc = some meth.sig)) = true) : (Jvm.Cond.code y bytes mx rt).before a s = true := by
  simp only [Bool.and_eq_true, beq_iff_eq, Bool.not_eq_true', decide_eq_true_eq] at h5
  obtain ⟨⟨⟨⟨⟨g1, g2⟩, g3⟩, g4⟩, g5⟩, g6⟩ := h5
  simp [Cond.before, Cond.holds, Cond.value, h1, h2, h3, h4, g1, g2, g3, g4, g5, g6]
def isCode : Jvm.Cond → Bool
  | .code _ _ _ _ => true
  | _ => false
theorem all_split {L : List Jvm.Cond} {P : Jvm.Cond → Bool} (h1 : L.all (fun c => isCode c || P c) = true) (h2 : ∀ c ∈ L.filter isCode, P c = true) : L.all P = true := by
  refine List.all_eq_true.mpr fun c hc => ?_
  have h := List.all_eq_true.mp h1 c hc
  rcases Bool.eq_false_or_eq_true (isCode c) with hi | hi
  · exact h2 c (List.mem_filter.mpr ⟨hc, hi⟩)
  · simpa [hi] using h
set_option maxRecDepth 65536 in
theorem w_c0 : (Jvm.Cond.code x code maxLocals ret).before args0 about1 = true := code_word (m := ⟨1, 1⟩) (meth := k1m1) (c := k1c1) (by decide +kernel) rfl rfl rfl (by decide +kernel)
set_option maxRecDepth 65536 in
theorem w_c1 : (Jvm.Cond.code ({ cls := "com/example/concordat/concordat/kv/Commit", name := "result", desc := "(Z)[B" } : Jvm.MethodName) prog_29_method_3_code (1 : Nat) (Option.some (Jvm.ClassFile.FieldType.array Jvm.ClassFile.FieldType.byte))).before args0 about1 = true := code_word (m := ⟨3, 1⟩) (meth := k3m1) (c := k3c1) (by decide +kernel) rfl rfl rfl (by decide +kernel)
set_option maxRecDepth 65536 in
theorem w_c2 : (Jvm.Cond.code ({ cls := "com/example/concordat/concordat/kv/Commit", name := "committed", desc := "([B)Z" } : Jvm.MethodName) prog_29_method_2_code (1 : Nat) (Option.some Jvm.ClassFile.FieldType.boolean)).before args0 about1 = true := code_word (m := ⟨3, 0⟩) (meth := k3m0) (c := k3c0) (by decide +kernel) rfl rfl rfl (by decide +kernel)
def codes1 : List Jvm.Cond := [Jvm.Cond.code x code maxLocals ret, Jvm.Cond.code ({ cls := "com/example/concordat/concordat/kv/Commit", name := "result", desc := "(Z)[B" } : Jvm.MethodName) prog_29_method_3_code (1 : Nat) (Option.some (Jvm.ClassFile.FieldType.array Jvm.ClassFile.FieldType.byte)), Jvm.Cond.code ({ cls := "com/example/concordat/concordat/kv/Commit", name := "committed", desc := "([B)Z" } : Jvm.MethodName) prog_29_method_2_code (1 : Nat) (Option.some Jvm.ClassFile.FieldType.boolean)]
set_option maxRecDepth 65536 in
theorem codes_eq : words1.filter isCode = codes1 := rfl
theorem w_codes : ∀ c ∈ words1.filter isCode, c.before args0 about1 = true := by
  rw [codes_eq]
  intro c hc
  simp only [codes1, List.mem_cons, List.not_mem_nil, or_false] at hc
  rcases hc with rfl | rfl | rfl
  · exact w_c0
  · exact w_c1
  · exact w_c2
set_option maxRecDepth 65536 in
theorem w_t1 : words1.all (fun c => isCode c || c.before args0 about1) = true := by decide +kernel
theorem w_tables : (allAtoms (Jvm.Cond.code x code maxLocals ret :: tables_1)).before args0 about1 = true := by
  rw [allAtoms_all]
  show words1.all (fun c => c.before args0 about1) = true
  refine all_split ?_ w_codes
  rw [w_t1]
set_option maxRecDepth 65536 in
theorem w_case : (Jvm.Cond.and given_1 narrow_1).before args0 about1 = true := by decide +kernel
theorem w_applies : (headSpec (Jvm.Cond.code x code maxLocals ret :: tables_1) room_1).applies x e0.platform about1 = true :=
  (Spec.applies_iff w_frames).mpr ⟨w_running, w_runnable, w_alone, w_named, w_hears, w_ripe, w_room, w_tables⟩
theorem atStart : AtStart classFile x code maxLocals ret World_1 tables_1 room_1 Calls_1 rest_1 Pre_1 launch0 p0 e0 about1 theMethod args0 below0 :=
  ⟨lists_1, trivial, launch0.admits_env _ _ _, launch0.least_env, fairChoices_fair.cas, fairChoices_fair.clock, w_frames, w_args, w_heap, w_applies, trivial, trivial, w_case⟩
end start1
theorem witness_1 : WitnessClaimed_1 := ⟨start1.p0, start1.e0, start1.about1, start1.theMethod, start1.args0, start1.below0, start1.atStart⟩
end Jvm.Pilot.@@N@@
