import JvmDerived
import JvmDerived.Pilot.@@N@@Statement
import JvmDerived.Pilot.@@N@@Code
set_option linter.unusedVariables false
set_option linter.unusedSimpArgs false
namespace Jvm.Pilot.@@N@@
open Jvm Jvm.ClassFile Sem Op Lib Jvm.Free Jvm.Stand Jvm.LawKit Jvm.RoadKit Bundle Jvm.Pilot.@@N@@.Jvm.D
section Own
variable {p : Program} {l : Launch} {e : Env} {R : Room} {s : State} {m : MethodId} {args : Array Value} {below : List Frame} {meth : Method} {c : Code} {T T0 T1 : State} {g0 g1 : JFrame} {locs : List Loc} {cells slots : Nat} {Z : State} {h h' h0 : Heap} {a b : Nat}
/-- the run goes from T0 with the frame g0 to a state of which P holds -/
def Goes (p : Program) (l : Launch) (e : Env) (R : Room) (s : State) (m : MethodId) (args : Array Value) (below : List Frame) (meth : Method) (c : Code) (T0 : State) (g0 : JFrame) (P : State → List Loc → Nat → Nat → JFrame → Prop) : Prop :=
  ∃ T' L' k' n' g', Stand p l e R s m args below meth c T' L' k' n' ∧ P T' L' k' n' g' ∧ ∀ t, Steps p.tables e below (T'.setTop g') t → Steps p.tables e below (T0.setTop g0) t
variable {P Q : State → List Loc → Nat → Nat → JFrame → Prop}
theorem own_st (st : ∀ t, Steps p.tables e below (T1.setTop g1) t → Steps p.tables e below (T0.setTop g0) t) (k : Goes p l e R s m args below meth c T1 g1 P) : Goes p l e R s m args below meth c T0 g0 P := by
  obtain ⟨T', L', k', n', g', X, hP, q⟩ := k
  exact ⟨T', L', k', n', g', X, hP, fun t r => st t (q t r)⟩
theorem own_here (X : Stand p l e R s m args below meth c T0 locs cells slots) (hP : P T0 locs cells slots g0) : Goes p l e R s m args below meth c T0 g0 P :=
  ⟨T0, locs, cells, slots, g0, X, hP, fun _ r => r⟩
theorem own_bind (k : Goes p l e R s m args below meth c T0 g0 P) (q : ∀ T' L' k' n' g', Stand p l e R s m args below meth c T' L' k' n' → P T' L' k' n' g' → Goes p l e R s m args below meth c T' g' Q) : Goes p l e R s m args below meth c T0 g0 Q := by
  obtain ⟨T', L', k', n', g', X, hP, st⟩ := k
  exact own_st st (q T' L' k' n' g' X hP)
theorem own_stand {L L' : List Loc} {k k' n n' : Nat} (X : Stand p l e R s m args below meth c T L k n) (h1 : L = L') (h2 : k = k') (h3 : n = n') : Stand p l e R s m args below meth c T L' k' n' := by subst h1 h2 h3; exact X
theorem own_cast (q : g0 = g1) (k : Goes p l e R s m args below meth c T0 g1 P) : Goes p l e R s m args below meth c T0 g0 P := by subst q; exact k
/-- the frame stands before a return of nothing -/
def EndV (m : MethodId) (c : Code) (K N : Nat) (Q : Option Value → Heap → List Loc → Prop) (T : State) (L : List Loc) (k n : Nat) (g : JFrame) : Prop := ∃ pc Ls, g = mkF m pc Ls [] ∧ decode c.code pc = .ok (.return_, 1) ∧ k ≤ K ∧ n ≤ N ∧ Q none T.heap L
/-- the frame stands before the return of an int of the kind t -/
def EndN (m : MethodId) (c : Code) (t : FieldType) (K N : Nat) (Q : Option Value → Heap → List Loc → Prop) (T : State) (L : List Loc) (k n : Nat) (g : JFrame) : Prop := ∃ pc Ls z, g = mkF m pc Ls [.int z] ∧ decode c.code pc = .ok (.ireturn, 1) ∧ narrow t (.int z) = .int z ∧ k ≤ K ∧ n ≤ N ∧ Q (some (.int z)) T.heap L
def EndJ (m : MethodId) (c : Code) (K N : Nat) (Q : Option Value → Heap → List Loc → Prop) (T : State) (L : List Loc) (k n : Nat) (g : JFrame) : Prop := ∃ pc Ls z, g = mkF m pc Ls [.long z] ∧ decode c.code pc = .ok (.lreturn, 1) ∧ k ≤ K ∧ n ≤ N ∧ Q (some (.long z)) T.heap L
def EndA (m : MethodId) (c : Code) (K N : Nat) (Q : Option Value → Heap → List Loc → Prop) (T : State) (L : List Loc) (k n : Nat) (g : JFrame) : Prop := ∃ pc Ls z, g = mkF m pc Ls [.ref z] ∧ decode c.code pc = .ok (.areturn, 1) ∧ k ≤ K ∧ n ≤ N ∧ Q (some (.ref z)) T.heap L
theorem own_finV {K N : Nat} {Q : Option Value → Heap → List Loc → Prop} (hx : p.tables.exec = Jvm.exec) (hret : meth.sig.returnType = none) (hlk : meth.locks = false) (G : Goes p l e R s m args below meth c T0 g0 (EndV m c K N Q)) :
    ∃ s₂ o, Steps p.tables e below (T0.setTop g0) s₂ ∧ s₂.status = .running ∧ Ended s₂ below o ∧ ∃ v L, o = .returned v ∧ Q v s₂.heap L ∧ FrameEnd s o s₂ L K N := by
  obtain ⟨T', L', k', n', g', X, ⟨pc, Ls, rfl, hd, hk, hn, hQ⟩, st⟩ := G
  obtain ⟨fs, hr, hrun, hended, hW, hsame⟩ := X.leave (v := none) (fun _ => rfl) hlk
  exact ⟨_, _, st _ (X.returnOut hx hret hd hr), hrun, hended, _, _, rfl, hQ, ⟨_, rfl⟩, hW, hsame.mono hk hn⟩
theorem own_finN {t : FieldType} {K N : Nat} {Q : Option Value → Heap → List Loc → Prop} (hti : t = .int ∨ t = .boolean ∨ t = .byte ∨ t = .char ∨ t = .short) (hx : p.tables.exec = Jvm.exec) (hret : meth.sig.returnType = some t) (hlk : meth.locks = false) (G : Goes p l e R s m args below meth c T0 g0 (EndN m c t K N Q)) :
    ∃ s₂ o, Steps p.tables e below (T0.setTop g0) s₂ ∧ s₂.status = .running ∧ Ended s₂ below o ∧ ∃ v L, o = .returned v ∧ Q v s₂.heap L ∧ FrameEnd s o s₂ L K N := by
  obtain ⟨T', L', k', n', g', X, ⟨pc, Ls, z, rfl, hd, hz, hk, hn, hQ⟩, st⟩ := G
  obtain ⟨fs, hr, hrun, hended, hW, hsame⟩ := X.leave (v := some (.int z)) (fun h => by rw [hret] at h; cases h) hlk
  exact ⟨_, _, st _ (X.ireturnOut hx hret hz hti hd hr), hrun, hended, _, _, rfl, hQ, ⟨_, rfl⟩, hW, hsame.mono hk hn⟩
theorem own_finJ {K N : Nat} {Q : Option Value → Heap → List Loc → Prop} (hx : p.tables.exec = Jvm.exec) (hret : meth.sig.returnType = some .long) (hlk : meth.locks = false) (G : Goes p l e R s m args below meth c T0 g0 (EndJ m c K N Q)) :
    ∃ s₂ o, Steps p.tables e below (T0.setTop g0) s₂ ∧ s₂.status = .running ∧ Ended s₂ below o ∧ ∃ v L, o = .returned v ∧ Q v s₂.heap L ∧ FrameEnd s o s₂ L K N := by
  obtain ⟨T', L', k', n', g', X, ⟨pc, Ls, z, rfl, hd, hk, hn, hQ⟩, st⟩ := G
  obtain ⟨fs, hr, hrun, hended, hW, hsame⟩ := X.leave (v := some (.long z)) (fun h => by rw [hret] at h; cases h) hlk
  exact ⟨_, _, st _ (X.lreturnOut hx hret hd hr), hrun, hended, _, _, rfl, hQ, ⟨_, rfl⟩, hW, hsame.mono hk hn⟩
theorem own_finA {t : FieldType} {K N : Nat} {Q : Option Value → Heap → List Loc → Prop} (ht : t.isReference = true) (hx : p.tables.exec = Jvm.exec) (hret : meth.sig.returnType = some t) (hlk : meth.locks = false) (G : Goes p l e R s m args below meth c T0 g0 (EndA m c K N Q)) :
    ∃ s₂ o, Steps p.tables e below (T0.setTop g0) s₂ ∧ s₂.status = .running ∧ Ended s₂ below o ∧ ∃ v L, o = .returned v ∧ Q v s₂.heap L ∧ FrameEnd s o s₂ L K N := by
  obtain ⟨T', L', k', n', g', X, ⟨pc, Ls, z, rfl, hd, hk, hn, hQ⟩, st⟩ := G
  obtain ⟨fs, hr, hrun, hended, hW, hsame⟩ := X.leave (v := some (.ref z)) (fun h => by rw [hret] at h; cases h) hlk
  exact ⟨_, _, st _ (X.areturnOut hx rfl hret ht hd hr), hrun, hended, _, _, rfl, hQ, ⟨_, rfl⟩, hW, hsame.mono hk hn⟩
/-- a method's contract -/
abbrev Meets (l : Launch) (Z : State) (y : MethodName) (bytes : ByteArray) (maxL : Nat) (ret : Option FieldType) (ws : List Jvm.Cond) (rm : Room) (A : Array Value) (h0 : Heap) (K N : Nat) (Q : Option Value → Heap → List Loc → Prop) : Prop :=
  MetFree l y (head1 (Jvm.Cond.code y bytes maxL ret :: ws) rm) (fun a U => a = A ∧ Z.Warmed39 U.vm ∧ U.heap = h0) (fun _ _ _ _ _ => True) (fun _ U o U' => ∃ v L, o = .returned v ∧ Q v U'.heap L ∧ FrameEnd U o U' L K N)
theorem own_meets {y : MethodName} {bytes : ByteArray} {maxL K N : Nat} {ret : Option FieldType} {ws : List Jvm.Cond} {rm : Room} {A : Array Value} {Q : Option Value → Heap → List Loc → Prop} (hp : plainFor y = true)
    (body : ∀ p e s m below meth c s₁, p.tables.exec = Jvm.exec → Z.Warmed39 s.vm → c.code = bytes → c.maxLocals = maxL → s.vm.findClass y.cls = some m.cls → meth.name = y.name → meth.sig.returnType = ret → meth.locks = false → Stand p l e rm s m A below meth c s₁ [] 0 0 → s₁.heap = h0 →
      ∃ s₂ o, Steps p.tables e below (s₁.setTop (entryFrame m A maxL)) s₂ ∧ s₂.status = .running ∧ Ended s₂ below o ∧ ∃ v L, o = .returned v ∧ Q v s₂.heap L ∧ FrameEnd s o s₂ L K N) : Meets l Z y bytes maxL ret ws rm A h0 K N Q := by
  refine MetFree.of_bodySF hp hisR ?_
  intro p e s m args below meth c s₁ Bd hml0 hP hK
  obtain ⟨rfl, hZ, hh⟩ := hP
  exact body p e s m below meth c s₁ Bd.exec hZ Bd.bytes hml0 (findClass_of_methodNamed Bd.named) (name_of_methodNamed Bd.named Bd.method).1 Bd.returns Bd.notSynchronized (Stand.of_body Bd) (by rw [← hh, Bd.state]; rfl)
theorem own_nin {x y : Nat} {L : List Nat} (q : x ≠ y) (r : x ∉ L) : x ∉ y :: L := ninS q r
theorem own_fl {C n d : String} {v : Value} (F : Fld Z h a C n d v) : @LT.lt Nat _ a h.size := F.lt
theorem own_el {C : String} (F : Exa Z h a C) : @LT.lt Nat _ a h.size := F.lt
/-- the array at a holds the n values f 0, f 1 .. -/
def VA (Z : State) (h : Heap) (a : Nat) (ty : FieldType) (n : Nat) (f : Nat → Value) : Prop := ∃ cl : Cell, Arr Z h a cl ty ∧ cl.slots.size = n ∧ ∀ j, j < n → cl.slots[j]? = some (f j)
variable {ty : FieldType} {n : Nat} {f : Nat → Value}
theorem VA.lt (A : VA Z h a ty n f) : @LT.lt Nat _ a h.size := by obtain ⟨cl, A, -⟩ := A; exact A.lt
theorem VA.ext (A : VA Z h a ty n f) (E : Ext h h') : VA Z h' a ty n f := by obtain ⟨cl, A, r⟩ := A; exact ⟨cl, A.ext E, r⟩
theorem VA.other {sl : Nat} {v : Value} (A : VA Z h b ty n f) (W : Wr h h' a sl v) (q : b ≠ a) : VA Z h' b ty n f := by obtain ⟨cl, A, r⟩ := A; exact ⟨cl, A.other W q, r⟩
theorem VA.keep {ws : List Addr} (A : VA Z h a ty n f) (K : Keep h h' ws) (q : a ∉ ws) : VA Z h' a ty n f := by obtain ⟨cl, A, r⟩ := A; exact ⟨cl, ⟨K.2.1 a cl A.1 q, A.2⟩, r⟩
theorem VA.congr {f' : Nat → Value} (A : VA Z h a ty n f) (q : ∀ j, j < n → f j = f' j) : VA Z h a ty n f' := by obtain ⟨cl, A, S, H⟩ := A; exact ⟨cl, A, S, fun j hj => by rw [← q j hj]; exact H j hj⟩
theorem own_slots (cl : Cell) (i : Nat) (v : Value) : (cl.setSlot i v).slots = cl.slots.setIfInBounds i v := rfl
theorem VA.set {i : Nat} {v : Value} (A : VA Z h a ty n f) (W : Wr h h' a i v) : VA Z h' a ty n (fun j => if j = i then v else f j) := by
  obtain ⟨cl, A, S, H⟩ := A
  refine ⟨_, A.same W, by rw [sz_set]; exact S, fun j hj => ?_⟩
  rw [own_slots]
  show _ = some (if j = i then v else f j)
  by_cases u : i = j
  · subst u; rw [if_pos rfl, Array.getElem?_setIfInBounds_self_of_lt (by rw [S]; exact hj)]
  · rw [if_neg (fun q => u q.symm), Array.getElem?_setIfInBounds_ne u]; exact H j hj
theorem own_newslots (k : ClassId) (ty : FieldType) (z : Int32) : (newA k ty z).slots = Array.replicate z.toNatClampNeg (defaultValue ty) := rfl
theorem VA.new {k : ClassId} {z : Int32} (A : Arr Z h a (newA k ty z) ty) (hn : z.toNatClampNeg = n) : VA Z h a ty n (fun _ => defaultValue ty) := by
  refine ⟨_, A, by rw [sz_new, hn], fun j hj => ?_⟩
  rw [own_newslots, hn, Array.getElem?_replicate, if_pos hj]
/-- place i of f turned to x -/
def upd {α : Type} (f : Nat → α) (i : Nat) (x : α) (j : Nat) : α := if j = i then x else f j
theorem VA.setI {i : Nat} {x : Int32} {f : Nat → Int32} (A : VA Z h a ty n (fun j => .int (f j))) (W : Wr h h' a i (.int x)) : VA Z h' a ty n (fun j => .int (upd f i x j)) :=
  (A.set W).congr fun j _ => by simp only [upd]; split <;> rfl
theorem VA.setJ {i : Nat} {x : Int64} {f : Nat → Int64} (A : VA Z h a ty n (fun j => .long (f j))) (W : Wr h h' a i (.long x)) : VA Z h' a ty n (fun j => .long (upd f i x j)) :=
  (A.set W).congr fun j _ => by simp only [upd]; split <;> rfl
theorem own_nn {j : Nat} (hj : j < 2147483648) : ¬ Int32.ofNat j < 0 := by
  rw [Int32.lt_iff_toInt_lt, Int32.toInt_ofNat_of_lt hj, show (0 : Int32).toInt = 0 from rfl]; omega
theorem own_n32 {j : Nat} (hj : j < 2147483648) : (Int32.ofNat j).toNatClampNeg = j := by
  rw [Int32.toNatClampNeg, Int32.toInt_ofNat_of_lt hj]; rfl
theorem own_lt {i j : Nat} (hi : i < 2147483648) (hj : j < 2147483648) : Int32.ofNat i < Int32.ofNat j ↔ i < j := by
  rw [Int32.lt_iff_toInt_lt, Int32.toInt_ofNat_of_lt hi, Int32.toInt_ofNat_of_lt hj]; omega
theorem own_eq {i j : Nat} (hi : i < 2147483648) (hj : j < 2147483648) : Int32.ofNat i = Int32.ofNat j ↔ i = j := by
  rw [← Int32.toInt_inj, Int32.toInt_ofNat_of_lt hi, Int32.toInt_ofNat_of_lt hj]; omega
theorem own_in {i : Int32} {j k : Nat} (hi : i = Int32.ofNat j) (hj : j < k) (hb : k ≤ 2147483648) : ¬ (i < 0 ∨ k ≤ i.toNatClampNeg) := by
  subst hi; rw [own_n32 (by omega)]; exact fun q => q.elim (own_nn (by omega)) (fun q => by omega)
theorem own_len (X : Stand p l e R s m args below meth c T locs cells slots) (hx : p.tables.exec = Jvm.exec) (hZ : Z.Warmed39 s.vm) (eT : T.heap = h) (A : VA Z h a ty n f) {N : Int32} (hN : N = Int32.ofNat n) {g : JFrame} (hg : g.method = m) {rest : List Value} (hs : g.stack = .ref a :: rest) (hd : decode c.code g.pc = .ok (.arraylength, 1)) :
    ∀ t, Steps p.tables e below (T.setTop { g with pc := g.pc + 1, stack := .int N :: rest }) t → Steps p.tables e below (T.setTop g) t := by
  obtain ⟨cl, A, S, H⟩ := A
  intro t k
  refine X.arraylength hx (by rw [eT]; exact A.1) (State.isArrayOf_alike hZ.alike A.2.1) hg hs hd _ ?_
  rw [S, show n.toInt32 = N from hN.symm]
  exact k
theorem own_ild (X : Stand p l e R s m args below meth c T locs cells slots) (hx : p.tables.exec = Jvm.exec) (hZ : Z.Warmed39 s.vm) (eT : T.heap = h) (A : VA Z h a .int n f) {i : Int32} {j : Nat} {v : Value} (hi : i = Int32.ofNat j) (hj : j < n) (hb : n ≤ 2147483648) (hv : f j = v) {g : JFrame} (hg : g.method = m) {rest : List Value} (hs : g.stack = .int i :: .ref a :: rest) (hd : decode c.code g.pc = .ok (.iaload, 1)) :
    ∀ t, Steps p.tables e below (T.setTop { g with pc := g.pc + 1, stack := v :: rest }) t → Steps p.tables e below (T.setTop g) t := by
  obtain ⟨cl, A, S, H⟩ := A
  exact X.iaload hx (by rw [eT]; exact A.1) (State.isArrayOf_alike hZ.alike A.2.1) A.2.2 (by rw [S]; exact own_in hi hj hb) (by rw [hi, own_n32 (by omega), H j hj, hv]) hg hs hd
theorem own_jld (X : Stand p l e R s m args below meth c T locs cells slots) (hx : p.tables.exec = Jvm.exec) (hZ : Z.Warmed39 s.vm) (eT : T.heap = h) (A : VA Z h a .long n f) {i : Int32} {j : Nat} {v : Value} (hi : i = Int32.ofNat j) (hj : j < n) (hb : n ≤ 2147483648) (hv : f j = v) {g : JFrame} (hg : g.method = m) {rest : List Value} (hs : g.stack = .int i :: .ref a :: rest) (hd : decode c.code g.pc = .ok (.laload, 1)) :
    ∀ t, Steps p.tables e below (T.setTop { g with pc := g.pc + 1, stack := v :: rest }) t → Steps p.tables e below (T.setTop g) t := by
  obtain ⟨cl, A, S, H⟩ := A
  exact X.laload hx (by rw [eT]; exact A.1) (State.isArrayOf_alike hZ.alike A.2.1) A.2.2 (by rw [S]; exact own_in hi hj hb) (by rw [hi, own_n32 (by omega), H j hj, hv]) hg hs hd
theorem own_cld (X : Stand p l e R s m args below meth c T locs cells slots) (hx : p.tables.exec = Jvm.exec) (hZ : Z.Warmed39 s.vm) (eT : T.heap = h) (A : VA Z h a .char n f) {i : Int32} {j : Nat} {v : Value} (hi : i = Int32.ofNat j) (hj : j < n) (hb : n ≤ 2147483648) (hv : f j = v) {g : JFrame} (hg : g.method = m) {rest : List Value} (hs : g.stack = .int i :: .ref a :: rest) (hd : decode c.code g.pc = .ok (.caload, 1)) :
    ∀ t, Steps p.tables e below (T.setTop { g with pc := g.pc + 1, stack := v :: rest }) t → Steps p.tables e below (T.setTop g) t := by
  obtain ⟨cl, A, S, H⟩ := A
  exact X.caload hx (by rw [eT]; exact A.1) (State.isArrayOf_alike hZ.alike A.2.1) A.2.2 (by rw [S]; exact own_in hi hj hb) (by rw [hi, own_n32 (by omega), H j hj, hv]) hg hs hd
theorem own_bld (X : Stand p l e R s m args below meth c T locs cells slots) (hx : p.tables.exec = Jvm.exec) (hZ : Z.Warmed39 s.vm) (eT : T.heap = h) (A : VA Z h a .byte n f) {i : Int32} {j : Nat} {v : Value} (hi : i = Int32.ofNat j) (hj : j < n) (hb : n ≤ 2147483648) (hv : f j = v) {g : JFrame} (hg : g.method = m) {rest : List Value} (hs : g.stack = .int i :: .ref a :: rest) (hd : decode c.code g.pc = .ok (.baload, 1)) :
    ∀ t, Steps p.tables e below (T.setTop { g with pc := g.pc + 1, stack := v :: rest }) t → Steps p.tables e below (T.setTop g) t := by
  obtain ⟨cl, A, S, H⟩ := A
  exact X.baloadBytes hx (by rw [eT]; exact A.1) (State.isArrayOf_alike hZ.alike A.2.1) A.2.2 (by rw [S]; exact own_in hi hj hb) (by rw [hi, own_n32 (by omega), H j hj, hv]) hg hs hd
theorem own_ist (X : Stand p l e R s m args below meth c T locs cells slots) (hx : p.tables.exec = Jvm.exec) (hZ : Z.Warmed39 s.vm) (eT : T.heap = h) (A : VA Z h a .int n f) {i x : Int32} {j : Nat} (hi : i = Int32.ofNat j) (hj : j < n) (hb : n ≤ 2147483648) {g : JFrame} (hg : g.method = m) {rest : List Value} (hs : g.stack = .int x :: .int i :: .ref a :: rest) (hd : decode c.code g.pc = .ok (.iastore, 1)) :
    ∃ T' h', Stand p l e R s m args below meth c T' (locs ++ [⟨a, j⟩]) cells slots ∧ T'.heap = h' ∧ Wr h h' a j (.int x) ∧ ∀ t, Steps p.tables e below (T'.setTop { g with pc := g.pc + 1, stack := rest }) t → Steps p.tables e below (T.setTop g) t := by
  obtain ⟨cl, A, S, H⟩ := A
  have q := stI X hx hZ eT A (by rw [S]; exact own_in hi hj hb) hg hs hd
  rw [hi, own_n32 (by omega)] at q
  exact q
theorem own_jst (X : Stand p l e R s m args below meth c T locs cells slots) (hx : p.tables.exec = Jvm.exec) (hZ : Z.Warmed39 s.vm) (eT : T.heap = h) (A : VA Z h a .long n f) {i : Int32} {x : Int64} {j : Nat} (hi : i = Int32.ofNat j) (hj : j < n) (hb : n ≤ 2147483648) {g : JFrame} (hg : g.method = m) {rest : List Value} (hs : g.stack = .long x :: .int i :: .ref a :: rest) (hd : decode c.code g.pc = .ok (.lastore, 1)) :
    ∃ T' h', Stand p l e R s m args below meth c T' (locs ++ [⟨a, j⟩]) cells slots ∧ T'.heap = h' ∧ Wr h h' a j (.long x) ∧ ∀ t, Steps p.tables e below (T'.setTop { g with pc := g.pc + 1, stack := rest }) t → Steps p.tables e below (T.setTop g) t := by
  obtain ⟨cl, A, S, H⟩ := A
  have q := stJ X hx hZ eT A (by rw [S]; exact own_in hi hj hb) hg hs hd
  rw [hi, own_n32 (by omega)] at q
  exact q
theorem own_cst (X : Stand p l e R s m args below meth c T locs cells slots) (hx : p.tables.exec = Jvm.exec) (hZ : Z.Warmed39 s.vm) (eT : T.heap = h) (A : VA Z h a .char n f) {i x : Int32} {j : Nat} (hi : i = Int32.ofNat j) (hj : j < n) (hb : n ≤ 2147483648) {g : JFrame} (hg : g.method = m) {rest : List Value} (hs : g.stack = .int x :: .int i :: .ref a :: rest) (hd : decode c.code g.pc = .ok (.castore, 1)) :
    ∃ T' h', Stand p l e R s m args below meth c T' (locs ++ [⟨a, j⟩]) cells slots ∧ T'.heap = h' ∧ Wr h h' a j (.int (nar .char x)) ∧ ∀ t, Steps p.tables e below (T'.setTop { g with pc := g.pc + 1, stack := rest }) t → Steps p.tables e below (T.setTop g) t := by
  obtain ⟨cl, A, S, H⟩ := A
  have q := stC X hx hZ eT A (by rw [S]; exact own_in hi hj hb) hg hs hd
  rw [hi, own_n32 (by omega)] at q
  exact q
theorem own_bst (X : Stand p l e R s m args below meth c T locs cells slots) (hx : p.tables.exec = Jvm.exec) (hZ : Z.Warmed39 s.vm) (eT : T.heap = h) (A : VA Z h a .byte n f) {i x : Int32} {j : Nat} (hi : i = Int32.ofNat j) (hj : j < n) (hb : n ≤ 2147483648) {g : JFrame} (hg : g.method = m) {rest : List Value} (hs : g.stack = .int x :: .int i :: .ref a :: rest) (hd : decode c.code g.pc = .ok (.bastore, 1)) :
    ∃ T' h', Stand p l e R s m args below meth c T' (locs ++ [⟨a, j⟩]) cells slots ∧ T'.heap = h' ∧ Wr h h' a j (.int (nar .byte x)) ∧ ∀ t, Steps p.tables e below (T'.setTop { g with pc := g.pc + 1, stack := rest }) t → Steps p.tables e below (T.setTop g) t := by
  obtain ⟨cl, A, S, H⟩ := A
  have q := stB X hx hZ eT A (by rw [S]; exact own_in hi hj hb) hg hs hd
  rw [hi, own_n32 (by omega)] at q
  exact q
end Own
theorem own_succ (k : Nat) : Int32.ofNat k + (1 : Int32) = Int32.ofNat (k + 1) := (Int32.ofNat_add k 1).symm
theorem own_pred (k : Nat) : Int32.ofNat (k + 1) - (1 : Int32) = Int32.ofNat k := by
  rw [← own_succ, Int32.add_sub_cancel]
theorem own_prev {k : Nat} (h : 0 < k) : Int32.ofNat k - (1 : Int32) = Int32.ofNat (k - 1) := by
  obtain ⟨j, rfl⟩ : ∃ j, k = j + 1 := ⟨k - 1, by omega⟩
  exact own_pred j
theorem own_diff {n k : Nat} (h : k ≤ n) : Int32.ofNat n - Int32.ofNat k = Int32.ofNat (n - k) := by
  obtain ⟨j, rfl⟩ : ∃ j, n = j + k := ⟨n - k, by omega⟩
  rw [Int32.ofNat_add, Int32.add_sub_cancel, Nat.add_sub_cancel]
theorem own_plus (n k : Nat) : Int32.ofNat n + Int32.ofNat k = Int32.ofNat (n + k) := (Int32.ofNat_add n k).symm
theorem own_n (x : Int32) : ∃ n : Nat, 1 ≤ n ∧ n ≤ 6 ∧ ((x &&& (2147483647 : Int32)) - ((x &&& (2147483647 : Int32)) / (6 : Int32)) * (6 : Int32)) + (1 : Int32) = Int32.ofNat n := by
  have h := c_and x 2147483647 (by decide)
  have h6 : (6 : Int32).toInt = 6 := by decide
  have h1 : (1 : Int32).toInt = 1 := by decide
  generalize (x &&& (2147483647 : Int32)) = z at h
  have hz := rng32 z
  have hd := (c_idiv z 6 6 (by decide) (by decide)).1 h.1
  have hm := c_imul (z / 6) 6
  rw [h6] at hm
  have hr := rng32 (z / 6 * 6)
  have hs := c_isub z (z / 6 * 6)
  have hr2 := rng32 (z - z / 6 * 6)
  have ha := c_iadd (z - z / 6 * 6) 1
  have hr3 := rng32 (z - z / 6 * 6 + 1)
  refine ⟨(z - z / 6 * 6 + 1).toInt.toNat, by omega, by omega, ?_⟩
  rw [← Int32.toInt_inj, Int32.toInt_ofNat_of_lt (by omega)]
  omega
/-- the value first, then the rest -/
def own_force {α : Type} (n : Nat) (k : Nat → α) : α := match n with
  | 0 => k 0
  | m + 1 => k (m + 1)
theorem own_force_eq {α : Type} (n : Nat) (k : Nat → α) : own_force n k = k n := by cases n <;> rfl
/-- the falling back along the table -/
def own_fall (E : Nat → Nat → Bool) (g : Nat → Nat) (i : Nat) : Nat → Nat → Nat
  | 0, k => k
  | fu + 1, k => if 0 < k ∧ E i k = false then own_force (g (k - 1)) (own_fall E g i fu) else k
theorem own_fall_stop {E : Nat → Nat → Bool} {g : Nat → Nat} {i fu k : Nat} (h : ¬ (0 < k ∧ E i k = false)) : own_fall E g i (fu + 1) k = k := if_neg h
theorem own_fall_go {E : Nat → Nat → Bool} {g : Nat → Nat} {i fu k : Nat} (h1 : 0 < k) (h2 : E i k = false) : own_fall E g i (fu + 1) k = own_fall E g i fu (g (k - 1)) := (if_pos ⟨h1, h2⟩).trans (own_force_eq _ _)
theorem own_fall_le {E : Nat → Nat → Bool} {g : Nat → Nat} {i : Nat} (hg : ∀ j, g j ≤ j) : ∀ fu k, own_fall E g i fu k ≤ k := by
  intro fu
  induction fu with
  | zero => intro k; exact Nat.le_refl k
  | succ fu ih =>
    intro k
    by_cases h : 0 < k ∧ E i k = false
    · rw [own_fall_go h.1 h.2]
      have h1 := ih (g (k - 1))
      have h2 := hg (k - 1)
      omega
    · rw [own_fall_stop h]; exact Nat.le_refl k
def own_next (E : Nat → Nat → Bool) (g : Nat → Nat) (i k : Nat) : Nat := own_force (own_fall E g i k k) fun k1 => if E i k1 = true then k1 + 1 else k1
theorem own_next_yes {E : Nat → Nat → Bool} {g : Nat → Nat} {i k : Nat} (h : E i (own_fall E g i k k) = true) : own_next E g i k = own_fall E g i k k + 1 := (own_force_eq _ _).trans (if_pos h)
theorem own_next_no {E : Nat → Nat → Bool} {g : Nat → Nat} {i k : Nat} (h : ¬ E i (own_fall E g i k k) = true) : own_next E g i k = own_fall E g i k k := (own_force_eq _ _).trans (if_neg h)
theorem own_next_le {E : Nat → Nat → Bool} {g : Nat → Nat} {i k : Nat} (hg : ∀ j, g j ≤ j) : own_next E g i k ≤ k + 1 := by
  have h := own_fall_le (E := E) (i := i) hg k k
  by_cases q : E i (own_fall E g i k k) = true
  · rw [own_next_yes q]; omega
  · rw [own_next_no q]; omega
/-- the table -/
def own_kmp (E : Nat → Nat → Bool) : Nat → Nat → Nat → (Nat → Nat) → (Nat → Nat)
  | 0, _, _, g => g
  | t + 1, i, k, g => own_force (own_next E g i k) fun k2 => own_kmp E t (i + 1) k2 (upd g i k2)
theorem own_kmp_succ {E : Nat → Nat → Bool} {t i k : Nat} {g : Nat → Nat} : own_kmp E (t + 1) i k g = own_kmp E t (i + 1) (own_next E g i k) (upd g i (own_next E g i k)) := own_force_eq _ _
theorem own_upd_le {g : Nat → Nat} {i x : Nat} (hg : ∀ j, g j ≤ j) (hx : x ≤ i) : ∀ j, upd g i x j ≤ j := fun j => by
  unfold upd; split
  · omega
  · exact hg j
/-- the first k places are the k places from d on -/
def own_isb (E : Nat → Nat → Bool) (d k : Nat) : Bool := (List.range k).all fun j => E j (d + j)
theorem own_isb_no {E : Nat → Nat → Bool} {d k j : Nat} (hj : j < k) (h : ¬ E j (d + j) = true) : own_isb E d k = false := by
  rw [← Bool.not_eq_true]
  exact fun q => h (List.all_eq_true.mp q j (List.mem_range.mpr hj))
theorem own_isb_yes {E : Nat → Nat → Bool} {d k : Nat} (h : ∀ j, j < k → E j (d + j) = true) : own_isb E d k = true := List.all_eq_true.mpr fun j hj => h j (List.mem_range.mp hj)
def own_01 (b : Bool) : Int32 := if b = true then 1 else 0
/-- the longest border -/
def own_lb (E : Nat → Nat → Bool) (n : Nat) : Nat := if 5 < n ∧ own_isb E (n - 5) 5 = true then 5 else if 4 < n ∧ own_isb E (n - 4) 4 = true then 4 else if 3 < n ∧ own_isb E (n - 3) 3 = true then 3 else if 2 < n ∧ own_isb E (n - 2) 2 = true then 2 else if 1 < n ∧ own_isb E (n - 1) 1 = true then 1 else 0
def own_E (F : Nat → Int32) (a b : Nat) : Bool := decide (F a = F b)
def own_F (w0 w1 w2 w3 w4 w5 : Int32) : Nat → Int32
  | 0 => w0
  | 1 => w1
  | 2 => w2
  | 3 => w3
  | 4 => w4
  | 5 => w5
  | _ + 6 => w0
/-- places by the first that holds the same -/
def own_R (r1 r2 r3 r4 r5 : Nat) : Nat → Nat
  | 0 => 0
  | 1 => r1
  | 2 => r2
  | 3 => r3
  | 4 => r4
  | 5 => r5
  | _ + 6 => 0
def own_ok (r1 r2 r3 r4 r5 n : Nat) : Bool := own_kmp (fun a b => own_R r1 r2 r3 r4 r5 a == own_R r1 r2 r3 r4 r5 b) (n - 1) 1 0 (fun _ => 0) (n - 1) == own_lb (fun a b => own_R r1 r2 r3 r4 r5 a == own_R r1 r2 r3 r4 r5 b) n
set_option maxRecDepth 65536 in
theorem own_all : ∀ (r1 : Fin 2) (r2 : Fin 3) (r3 : Fin 4) (r4 : Fin 5) (r5 : Fin 6), own_ok r1 r2 r3 r4 r5 1 = true ∧ own_ok r1 r2 r3 r4 r5 2 = true ∧ own_ok r1 r2 r3 r4 r5 3 = true ∧ own_ok r1 r2 r3 r4 r5 4 = true ∧ own_ok r1 r2 r3 r4 r5 5 = true ∧ own_ok r1 r2 r3 r4 r5 6 = true := by decide +kernel
/-- the first place that holds what place j holds -/
def own_fst (F : Nat → Int32) (j : Nat) : Nat := (List.range 6).findIdx fun i => decide (F i = F j)
theorem own_fst_le (F : Nat → Int32) {j : Nat} (hj : j < 6) : own_fst F j ≤ j := by
  rcases Nat.lt_or_ge j (own_fst F j) with h | h
  · have q := List.not_of_lt_findIdx h
    simp at q
  · exact h
theorem own_fst_at (F : Nat → Int32) {j : Nat} (hj : j < 6) : F (own_fst F j) = F j := by
  have h : own_fst F j < (List.range 6).length := by
    have := own_fst_le F hj
    rw [List.length_range]; omega
  have q := List.findIdx_getElem (w := h)
  have e : (List.range 6)[own_fst F j]'h = own_fst F j := List.getElem_range h
  have q2 : decide (F ((List.range 6)[own_fst F j]'h) = F j) = true := q
  rw [e] at q2
  exact of_decide_eq_true q2
theorem own_fst_iff (F : Nat → Int32) {a b : Nat} (ha : a < 6) (hb : b < 6) : F a = F b ↔ own_fst F a = own_fst F b := by
  constructor
  · intro h; unfold own_fst; rw [h]
  · intro h; rw [← own_fst_at F ha, ← own_fst_at F hb, h]
theorem own_R_E (F : Nat → Int32) (h6 : ∀ k, F (k + 6) = F 0) : own_E F = fun a b => own_R (own_fst F 1) (own_fst F 2) (own_fst F 3) (own_fst F 4) (own_fst F 5) a == own_R (own_fst F 1) (own_fst F 2) (own_fst F 3) (own_fst F 4) (own_fst F 5) b := by
  have h0 : own_fst F 0 = 0 := Nat.le_zero.mp (own_fst_le F (by decide))
  have key : ∀ a, ∃ a', a' < 6 ∧ F a = F a' ∧ own_R (own_fst F 1) (own_fst F 2) (own_fst F 3) (own_fst F 4) (own_fst F 5) a = own_fst F a' := by
    intro a
    match a with
    | 0 => exact ⟨0, by decide, rfl, h0.symm⟩
    | 1 => exact ⟨1, by decide, rfl, rfl⟩
    | 2 => exact ⟨2, by decide, rfl, rfl⟩
    | 3 => exact ⟨3, by decide, rfl, rfl⟩
    | 4 => exact ⟨4, by decide, rfl, rfl⟩
    | 5 => exact ⟨5, by decide, rfl, rfl⟩
    | k + 6 => exact ⟨0, by decide, h6 k, h0.symm⟩
  funext a b
  obtain ⟨a', ha, e1, e2⟩ := key a
  obtain ⟨b', hb, e3, e4⟩ := key b
  show own_E F a b = (own_R (own_fst F 1) (own_fst F 2) (own_fst F 3) (own_fst F 4) (own_fst F 5) a == own_R (own_fst F 1) (own_fst F 2) (own_fst F 3) (own_fst F 4) (own_fst F 5) b)
  rw [e2, e4]
  unfold own_E
  rw [e1, e3, Bool.eq_iff_iff, decide_eq_true_eq, beq_iff_eq]
  exact own_fst_iff F ha hb
theorem own_law (w0 w1 w2 w3 w4 w5 : Int32) {n : Nat} (h1 : 1 ≤ n) (h6 : n ≤ 6) : own_kmp (own_E (own_F w0 w1 w2 w3 w4 w5)) (n - 1) 1 0 (fun _ => 0) (n - 1) = own_lb (own_E (own_F w0 w1 w2 w3 w4 w5)) n := by
  have hE := own_R_E (own_F w0 w1 w2 w3 w4 w5) (fun _ => rfl)
  generalize own_F w0 w1 w2 w3 w4 w5 = F at hE ⊢
  have l1 := own_fst_le F (j := 1) (by decide)
  have l2 := own_fst_le F (j := 2) (by decide)
  have l3 := own_fst_le F (j := 3) (by decide)
  have l4 := own_fst_le F (j := 4) (by decide)
  have l5 := own_fst_le F (j := 5) (by decide)
  obtain ⟨k1, k2, k3, k4, k5, k6⟩ := own_all ⟨own_fst F 1, by omega⟩ ⟨own_fst F 2, by omega⟩ ⟨own_fst F 3, by omega⟩ ⟨own_fst F 4, by omega⟩ ⟨own_fst F 5, by omega⟩
  rw [hE]
  have hn : n = 1 ∨ n = 2 ∨ n = 3 ∨ n = 4 ∨ n = 5 ∨ n = 6 := by omega
  rcases hn with rfl | rfl | rfl | rfl | rfl | rfl
  · exact beq_iff_eq.mp k1
  · exact beq_iff_eq.mp k2
  · exact beq_iff_eq.mp k3
  · exact beq_iff_eq.mp k4
  · exact beq_iff_eq.mp k5
  · exact beq_iff_eq.mp k6
theorem pd_0 : parseMethodDescriptor "([CII)Z" = some ⟨[(.array .char), .int, .int], some .boolean⟩ := by decide +kernel
theorem pd_1 : parseMethodDescriptor "(IIII)C" = some ⟨[.int, .int, .int, .int], some .char⟩ := by decide +kernel
theorem pd_2 : parseMethodDescriptor "([CI)I" = some ⟨[(.array .char), .int], some .int⟩ := by decide +kernel
theorem pd_3 : parseMethodDescriptor "([C)V" = some ⟨[(.array .char)], none⟩ := by decide +kernel
theorem pd_4 : parseMethodDescriptor "()I" = some ⟨[], some .int⟩ := by decide +kernel
theorem VA.setN {Z : State} {h h' : Heap} {a : Nat} {n i x : Nat} {f : Nat → Nat} (A : VA Z h a .int n (fun j => .int (Int32.ofNat (f j)))) (W : Wr h h' a i (.int (Int32.ofNat x))) : VA Z h' a .int n (fun j => .int (Int32.ofNat (upd f i x j))) :=
  (A.setI (f := fun j => Int32.ofNat (f j)) W).congr fun j _ => by simp only [upd]; split <;> rfl
theorem d1_0 : decode method_3_code 0 = .ok (.iload_n 2, 1) := by decide +kernel
theorem d1_1 : decode method_3_code 1 = .ok (.iload_n 0, 1) := by decide +kernel
theorem d1_2 : decode method_3_code 2 = .ok (.iconst 2, 1) := by decide +kernel
theorem d1_3 : decode method_3_code 3 = .ok (.iload_n 1, 1) := by decide +kernel
theorem d1_4 : decode method_3_code 4 = .ok (.imul, 1) := by decide +kernel
theorem d1_5 : decode method_3_code 5 = .ok (.iushr, 1) := by decide +kernel
theorem d1_6 : decode method_3_code 6 = .ok (.iconst 3, 1) := by decide +kernel
theorem d1_7 : decode method_3_code 7 = .ok (.iand, 1) := by decide +kernel
theorem d1_8 : decode method_3_code 8 = .ok (.iload_n 3, 1) := by decide +kernel
theorem d1_9 : decode method_3_code 9 = .ok (.imul, 1) := by decide +kernel
theorem d1_10 : decode method_3_code 10 = .ok (.iadd, 1) := by decide +kernel
theorem d1_11 : decode method_3_code 11 = .ok (.i2c, 1) := by decide +kernel
theorem d1_12 : decode method_3_code 12 = .ok (.ireturn, 1) := by decide +kernel
theorem pn_1 : plainName "com/example/shiftwise/shiftwise/PrefixTableOverlapPinLaw" = true := by first | (simp [plainName, overriddenIn]; done) | decide +kernel
theorem ef_1 (m : MethodId) (x0 : Int32) (x1 : Int32) (x2 : Int32) (x3 : Int32) : entryFrame m #[(.int x0), (.int x1), (.int x2), (.int x3)] 4 = mkF m 0 #[.val (.int x0), .val (.int x1), .val (.int x2), .val (.int x3)] [] := by first | (simp [entryFrame, mkF, argsToLocals, Value.category]; done) | rfl
def Q1 (h0 : Heap) (n0 : Nat) (v : Option Value) (h : Heap) (L : List Loc) : Prop := ∃ z : Int32, v = some (.int z) ∧ Fr n0 L ∧ h = h0
set_option maxRecDepth 65536 in
set_option maxHeartbeats 40000000 in
theorem rm1 (l : Launch) (Z : State) (a0 : Array Value) (hw : ∀ d ∈ tables_1, d.before a0 Z = true) (ws : List Jvm.Cond) (p1 p2 p3 p4 : Int32) (h0 : Heap) (n0 : Nat) :
    Meets l Z (⟨"com/example/shiftwise/shiftwise/PrefixTableOverlapPinLaw", "ch", "(IIII)C"⟩ : MethodName) method_3_code 4 (some .char) ws ({ frames := 0, cells := 0, slots := 0, locals := 0 } : Room) #[(.int p1), (.int p2), (.int p3), (.int p4)] h0 0 0 (Q1 h0 n0) := by
  refine own_meets (plainFor_of_name pn_1) ?_
  intro p e s m below meth c s₁ hx hZ hby hml hown hnm hret hlk X0 e0
  have hown : s.vm.findClass "com/example/shiftwise/shiftwise/PrefixTableOverlapPinLaw" = some m.cls := hown
  have hnm : meth.name = "ch" := hnm
  refine own_finN (l := l) (R := ({ frames := 0, cells := 0, slots := 0, locals := 0 } : Room)) (m := m) (args := #[(.int p1), (.int p2), (.int p3), (.int p4)]) (c := c) (by simp) hx hret hlk ?_
  refine own_cast (ef_1 m p1 p2 p3 p4) ?_
  refine own_st (g1 := (mkF m 1 #[.val (.int p1), .val (.int p2), .val (.int p3), .val (.int p4)] [(.int p3)])) (fun zt zk => XS.iloadN X0.here hx rfl (hb hby d1_0) rfl zk) ?_
  refine own_st (g1 := (mkF m 2 #[.val (.int p1), .val (.int p2), .val (.int p3), .val (.int p4)] [(.int p1), (.int p3)])) (fun zt zk => XS.iloadN X0.here hx rfl (hb hby d1_1) rfl zk) ?_
  refine own_st (g1 := (mkF m 3 #[.val (.int p1), .val (.int p2), .val (.int p3), .val (.int p4)] [(.int (2 : Int32)), (.int p1), (.int p3)])) (fun zt zk => XS.iconst X0.here hx rfl (hb hby d1_2) zk) ?_
  refine own_st (g1 := (mkF m 4 #[.val (.int p1), .val (.int p2), .val (.int p3), .val (.int p4)] [(.int p2), (.int (2 : Int32)), (.int p1), (.int p3)])) (fun zt zk => XS.iloadN X0.here hx rfl (hb hby d1_3) rfl zk) ?_
  refine own_st (g1 := (mkF m 5 #[.val (.int p1), .val (.int p2), .val (.int p3), .val (.int p4)] [(.int ((2 : Int32) * p2)), (.int p1), (.int p3)])) (fun zt zk => XS.imul X0.here hx rfl (hb hby d1_4) rfl zk) ?_
  refine own_st (g1 := (mkF m 6 #[.val (.int p1), .val (.int p2), .val (.int p3), .val (.int p4)] [(.int ((p1.toUInt32 >>> (((2 : Int32) * p2) &&& 31).toUInt32).toInt32)), (.int p3)])) (fun zt zk => XS.iushr X0.here hx rfl (hb hby d1_5) rfl zk) ?_
  refine own_st (g1 := (mkF m 7 #[.val (.int p1), .val (.int p2), .val (.int p3), .val (.int p4)] [(.int (3 : Int32)), (.int ((p1.toUInt32 >>> (((2 : Int32) * p2) &&& 31).toUInt32).toInt32)), (.int p3)])) (fun zt zk => XS.iconst X0.here hx rfl (hb hby d1_6) zk) ?_
  refine own_st (g1 := (mkF m 8 #[.val (.int p1), .val (.int p2), .val (.int p3), .val (.int p4)] [(.int (((p1.toUInt32 >>> (((2 : Int32) * p2) &&& 31).toUInt32).toInt32) &&& (3 : Int32))), (.int p3)])) (fun zt zk => XS.iand X0.here hx rfl (hb hby d1_7) rfl zk) ?_
  refine own_st (g1 := (mkF m 9 #[.val (.int p1), .val (.int p2), .val (.int p3), .val (.int p4)] [(.int p4), (.int (((p1.toUInt32 >>> (((2 : Int32) * p2) &&& 31).toUInt32).toInt32) &&& (3 : Int32))), (.int p3)])) (fun zt zk => XS.iloadN X0.here hx rfl (hb hby d1_8) rfl zk) ?_
  refine own_st (g1 := (mkF m 10 #[.val (.int p1), .val (.int p2), .val (.int p3), .val (.int p4)] [(.int ((((p1.toUInt32 >>> (((2 : Int32) * p2) &&& 31).toUInt32).toInt32) &&& (3 : Int32)) * p4)), (.int p3)])) (fun zt zk => XS.imul X0.here hx rfl (hb hby d1_9) rfl zk) ?_
  refine own_st (g1 := (mkF m 11 #[.val (.int p1), .val (.int p2), .val (.int p3), .val (.int p4)] [(.int (p3 + ((((p1.toUInt32 >>> (((2 : Int32) * p2) &&& 31).toUInt32).toInt32) &&& (3 : Int32)) * p4)))])) (fun zt zk => XS.iadd X0.here hx rfl (hb hby d1_10) rfl zk) ?_
  refine own_st (g1 := (mkF m 12 #[.val (.int p1), .val (.int p2), .val (.int p3), .val (.int p4)] [(.int ((p3 + ((((p1.toUInt32 >>> (((2 : Int32) * p2) &&& 31).toUInt32).toInt32) &&& (3 : Int32)) * p4)).toUInt32.toUInt16.toUInt32.toInt32))])) (fun zt zk => XS.i2c X0.here hx rfl (hb hby d1_11) rfl zk) ?_
  exact own_here X0 ⟨12, _, _, rfl, (hb hby d1_12), (Jvm.Free.XT.narrow_c _), (by decide), (by decide), (by rw [e0]; exact ⟨_, rfl, Fr.nil n0, rfl⟩)⟩
theorem d6_0 : decode method_4_code 0 = .ok (.iload_n 2, 1) := by decide +kernel
theorem d6_1 : decode method_4_code 1 = .ok (.ifCond .le 86, 3) := by decide +kernel
theorem d6_4 : decode method_4_code 4 = .ok (.aload_n 0, 1) := by decide +kernel
theorem d6_5 : decode method_4_code 5 = .ok (.iconst 0, 1) := by decide +kernel
theorem d6_6 : decode method_4_code 6 = .ok (.caload, 1) := by decide +kernel
theorem d6_7 : decode method_4_code 7 = .ok (.aload_n 0, 1) := by decide +kernel
theorem d6_8 : decode method_4_code 8 = .ok (.iload_n 1, 1) := by decide +kernel
theorem d6_9 : decode method_4_code 9 = .ok (.iload_n 2, 1) := by decide +kernel
theorem d6_10 : decode method_4_code 10 = .ok (.isub, 1) := by decide +kernel
theorem d6_11 : decode method_4_code 11 = .ok (.caload, 1) := by decide +kernel
theorem d6_12 : decode method_4_code 12 = .ok (.if_icmp .ne 79, 3) := by decide +kernel
theorem d6_15 : decode method_4_code 15 = .ok (.iload_n 2, 1) := by decide +kernel
theorem d6_16 : decode method_4_code 16 = .ok (.iconst 1, 1) := by decide +kernel
theorem d6_17 : decode method_4_code 17 = .ok (.if_icmp .le 70, 3) := by decide +kernel
theorem d6_20 : decode method_4_code 20 = .ok (.aload_n 0, 1) := by decide +kernel
theorem d6_21 : decode method_4_code 21 = .ok (.iconst 1, 1) := by decide +kernel
theorem d6_22 : decode method_4_code 22 = .ok (.caload, 1) := by decide +kernel
theorem d6_23 : decode method_4_code 23 = .ok (.aload_n 0, 1) := by decide +kernel
theorem d6_24 : decode method_4_code 24 = .ok (.iload_n 1, 1) := by decide +kernel
theorem d6_25 : decode method_4_code 25 = .ok (.iload_n 2, 1) := by decide +kernel
theorem d6_26 : decode method_4_code 26 = .ok (.isub, 1) := by decide +kernel
theorem d6_27 : decode method_4_code 27 = .ok (.iconst 1, 1) := by decide +kernel
theorem d6_28 : decode method_4_code 28 = .ok (.iadd, 1) := by decide +kernel
theorem d6_29 : decode method_4_code 29 = .ok (.caload, 1) := by decide +kernel
theorem d6_30 : decode method_4_code 30 = .ok (.if_icmp .ne 61, 3) := by decide +kernel
theorem d6_33 : decode method_4_code 33 = .ok (.iload_n 2, 1) := by decide +kernel
theorem d6_34 : decode method_4_code 34 = .ok (.iconst 2, 1) := by decide +kernel
theorem d6_35 : decode method_4_code 35 = .ok (.if_icmp .le 52, 3) := by decide +kernel
theorem d6_38 : decode method_4_code 38 = .ok (.aload_n 0, 1) := by decide +kernel
theorem d6_39 : decode method_4_code 39 = .ok (.iconst 2, 1) := by decide +kernel
theorem d6_40 : decode method_4_code 40 = .ok (.caload, 1) := by decide +kernel
theorem d6_41 : decode method_4_code 41 = .ok (.aload_n 0, 1) := by decide +kernel
theorem d6_42 : decode method_4_code 42 = .ok (.iload_n 1, 1) := by decide +kernel
theorem d6_43 : decode method_4_code 43 = .ok (.iload_n 2, 1) := by decide +kernel
theorem d6_44 : decode method_4_code 44 = .ok (.isub, 1) := by decide +kernel
theorem d6_45 : decode method_4_code 45 = .ok (.iconst 2, 1) := by decide +kernel
theorem d6_46 : decode method_4_code 46 = .ok (.iadd, 1) := by decide +kernel
theorem d6_47 : decode method_4_code 47 = .ok (.caload, 1) := by decide +kernel
theorem d6_48 : decode method_4_code 48 = .ok (.if_icmp .ne 43, 3) := by decide +kernel
theorem d6_51 : decode method_4_code 51 = .ok (.iload_n 2, 1) := by decide +kernel
theorem d6_52 : decode method_4_code 52 = .ok (.iconst 3, 1) := by decide +kernel
theorem d6_53 : decode method_4_code 53 = .ok (.if_icmp .le 34, 3) := by decide +kernel
theorem d6_56 : decode method_4_code 56 = .ok (.aload_n 0, 1) := by decide +kernel
theorem d6_57 : decode method_4_code 57 = .ok (.iconst 3, 1) := by decide +kernel
theorem d6_58 : decode method_4_code 58 = .ok (.caload, 1) := by decide +kernel
theorem d6_59 : decode method_4_code 59 = .ok (.aload_n 0, 1) := by decide +kernel
theorem d6_60 : decode method_4_code 60 = .ok (.iload_n 1, 1) := by decide +kernel
theorem d6_61 : decode method_4_code 61 = .ok (.iload_n 2, 1) := by decide +kernel
theorem d6_62 : decode method_4_code 62 = .ok (.isub, 1) := by decide +kernel
theorem d6_63 : decode method_4_code 63 = .ok (.iconst 3, 1) := by decide +kernel
theorem d6_64 : decode method_4_code 64 = .ok (.iadd, 1) := by decide +kernel
theorem d6_65 : decode method_4_code 65 = .ok (.caload, 1) := by decide +kernel
theorem d6_66 : decode method_4_code 66 = .ok (.if_icmp .ne 25, 3) := by decide +kernel
theorem d6_69 : decode method_4_code 69 = .ok (.iload_n 2, 1) := by decide +kernel
theorem d6_70 : decode method_4_code 70 = .ok (.iconst 4, 1) := by decide +kernel
theorem d6_71 : decode method_4_code 71 = .ok (.if_icmp .le 16, 3) := by decide +kernel
theorem d6_74 : decode method_4_code 74 = .ok (.aload_n 0, 1) := by decide +kernel
theorem d6_75 : decode method_4_code 75 = .ok (.iconst 4, 1) := by decide +kernel
theorem d6_76 : decode method_4_code 76 = .ok (.caload, 1) := by decide +kernel
theorem d6_77 : decode method_4_code 77 = .ok (.aload_n 0, 1) := by decide +kernel
theorem d6_78 : decode method_4_code 78 = .ok (.iload_n 1, 1) := by decide +kernel
theorem d6_79 : decode method_4_code 79 = .ok (.iload_n 2, 1) := by decide +kernel
theorem d6_80 : decode method_4_code 80 = .ok (.isub, 1) := by decide +kernel
theorem d6_81 : decode method_4_code 81 = .ok (.iconst 4, 1) := by decide +kernel
theorem d6_82 : decode method_4_code 82 = .ok (.iadd, 1) := by decide +kernel
theorem d6_83 : decode method_4_code 83 = .ok (.caload, 1) := by decide +kernel
theorem d6_84 : decode method_4_code 84 = .ok (.if_icmp .ne 7, 3) := by decide +kernel
theorem d6_87 : decode method_4_code 87 = .ok (.iconst 1, 1) := by decide +kernel
theorem d6_88 : decode method_4_code 88 = .ok (.goto 4, 3) := by decide +kernel
theorem d6_91 : decode method_4_code 91 = .ok (.iconst 0, 1) := by decide +kernel
theorem d6_92 : decode method_4_code 92 = .ok (.ireturn, 1) := by decide +kernel
theorem pn_6 : plainName "com/example/shiftwise/shiftwise/PrefixTableOverlapPinLaw" = true := by first | (simp [plainName, overriddenIn]; done) | decide +kernel
theorem ef_6 (m : MethodId) (x0 : Nat) (x1 : Int32) (x2 : Int32) : entryFrame m #[(.ref x0), (.int x1), (.int x2)] 3 = mkF m 0 #[.val (.ref x0), .val (.int x1), .val (.int x2)] [] := by first | (simp [entryFrame, mkF, argsToLocals, Value.category]; done) | rfl
def Q6 (F : Nat → Int32) (n k : Nat) (h0 : Heap) (n0 : Nat) (v : Option Value) (h : Heap) (L : List Loc) : Prop := v = some (.int (own_01 (own_isb (own_E F) (n - k) k))) ∧ Fr n0 L ∧ h = h0
set_option maxRecDepth 65536 in
set_option maxHeartbeats 40000000 in
theorem rm6 (l : Launch) (Z : State) (a0 : Array Value) (hw : ∀ d ∈ tables_1, d.before a0 Z = true) (ws : List Jvm.Cond) (a : Nat) (n k : Nat) (F : Nat → Int32) (h0 : Heap) (n0 : Nat) (hk1 : 1 ≤ k) (hk5 : k ≤ 5) (hkn : k < n) (hn6 : n ≤ 6) (V : VA Z h0 a .char n (fun j => .int (F j))) :
    Meets l Z (⟨"com/example/shiftwise/shiftwise/PrefixTableOverlapPinLaw", "isBorder", "([CII)Z"⟩ : MethodName) method_4_code 3 (some .boolean) ws ({ frames := 0, cells := 0, slots := 0, locals := 0 } : Room) #[(.ref a), (.int (Int32.ofNat n)), (.int (Int32.ofNat k))] h0 0 0 (Q6 F n k h0 n0) := by
  refine own_meets (plainFor_of_name pn_6) ?_
  intro p e s m below meth c s₁ hx hZ hby hml hown hnm hret hlk X0 e0
  have hown : s.vm.findClass "com/example/shiftwise/shiftwise/PrefixTableOverlapPinLaw" = some m.cls := hown
  have hnm : meth.name = "isBorder" := hnm
  refine own_finN (l := l) (R := ({ frames := 0, cells := 0, slots := 0, locals := 0 } : Room)) (m := m) (args := #[(.ref a), (.int (Int32.ofNat n)), (.int (Int32.ofNat k))]) (c := c) (by simp) hx hret hlk ?_
  refine own_cast (ef_6 m a (Int32.ofNat n) (Int32.ofNat k)) ?_
  refine own_st (g1 := (mkF m 1 #[.val (.ref a), .val (.int (Int32.ofNat n)), .val (.int (Int32.ofNat k))] [(.int (Int32.ofNat k))])) (fun zt zk => XS.iloadN X0.here hx rfl (hb hby d6_0) rfl zk) ?_
  refine own_st (g1 := (mkF m 4 #[.val (.ref a), .val (.int (Int32.ofNat n)), .val (.int (Int32.ofNat k))] [])) (fun zt zk => XS.ifNo X0.here hx rfl (hb hby d6_1) rfl ((if0 _ _).trans (tlt ((own_lt (i := 0) (j := k) (by omega) (by omega)).mpr (by omega))).2.2.2) zk) ?_
  refine own_st (g1 := (mkF m 5 #[.val (.ref a), .val (.int (Int32.ofNat n)), .val (.int (Int32.ofNat k))] [(.ref a)])) (fun zt zk => XS.aloadN X0.here hx rfl (hb hby d6_4) rfl rfl zk) ?_
  refine own_st (g1 := (mkF m 6 #[.val (.ref a), .val (.int (Int32.ofNat n)), .val (.int (Int32.ofNat k))] [(.int (0 : Int32)), (.ref a)])) (fun zt zk => XS.iconst X0.here hx rfl (hb hby d6_5) zk) ?_
  refine own_st (g1 := (mkF m 7 #[.val (.ref a), .val (.int (Int32.ofNat n)), .val (.int (Int32.ofNat k))] [(.int (F 0))])) (own_cld X0 hx hZ e0 V (j := 0) (v := (.int (F 0))) rfl (by omega) (by omega) rfl (g := (mkF m 6 #[.val (.ref a), .val (.int (Int32.ofNat n)), .val (.int (Int32.ofNat k))] [(.int (0 : Int32)), (.ref a)])) rfl rfl (hb hby d6_6)) ?_
  refine own_st (g1 := (mkF m 8 #[.val (.ref a), .val (.int (Int32.ofNat n)), .val (.int (Int32.ofNat k))] [(.ref a), (.int (F 0))])) (fun zt zk => XS.aloadN X0.here hx rfl (hb hby d6_7) rfl rfl zk) ?_
  refine own_st (g1 := (mkF m 9 #[.val (.ref a), .val (.int (Int32.ofNat n)), .val (.int (Int32.ofNat k))] [(.int (Int32.ofNat n)), (.ref a), (.int (F 0))])) (fun zt zk => XS.iloadN X0.here hx rfl (hb hby d6_8) rfl zk) ?_
  refine own_st (g1 := (mkF m 10 #[.val (.ref a), .val (.int (Int32.ofNat n)), .val (.int (Int32.ofNat k))] [(.int (Int32.ofNat k)), (.int (Int32.ofNat n)), (.ref a), (.int (F 0))])) (fun zt zk => XS.iloadN X0.here hx rfl (hb hby d6_9) rfl zk) ?_
  refine own_st (g1 := (mkF m 11 #[.val (.ref a), .val (.int (Int32.ofNat n)), .val (.int (Int32.ofNat k))] [(.int ((Int32.ofNat n) - (Int32.ofNat k))), (.ref a), (.int (F 0))])) (fun zt zk => XS.isub X0.here hx rfl (hb hby d6_10) rfl zk) ?_
  refine own_st (g1 := (mkF m 12 #[.val (.ref a), .val (.int (Int32.ofNat n)), .val (.int (Int32.ofNat k))] [(.int (F (n - k + 0))), (.int (F 0))])) (own_cld X0 hx hZ e0 V (j := (n - k + 0)) (v := (.int (F (n - k + 0)))) (own_diff (by omega)) (by omega) (by omega) rfl (g := (mkF m 11 #[.val (.ref a), .val (.int (Int32.ofNat n)), .val (.int (Int32.ofNat k))] [(.int ((Int32.ofNat n) - (Int32.ofNat k))), (.ref a), (.int (F 0))])) rfl rfl (hb hby d6_11)) ?_
  by_cases ee0 : (F 0) = (F (n - k + 0))
  · refine own_st (g1 := (mkF m 15 #[.val (.ref a), .val (.int (Int32.ofNat n)), .val (.int (Int32.ofNat k))] [])) (fun zt zk => XS.icmpNo X0.here hx rfl (hb hby d6_12) rfl (teq ee0).2 zk) ?_
    refine own_st (g1 := (mkF m 16 #[.val (.ref a), .val (.int (Int32.ofNat n)), .val (.int (Int32.ofNat k))] [(.int (Int32.ofNat k))])) (fun zt zk => XS.iloadN X0.here hx rfl (hb hby d6_15) rfl zk) ?_
    refine own_st (g1 := (mkF m 17 #[.val (.ref a), .val (.int (Int32.ofNat n)), .val (.int (Int32.ofNat k))] [(.int (1 : Int32)), (.int (Int32.ofNat k))])) (fun zt zk => XS.iconst X0.here hx rfl (hb hby d6_16) zk) ?_
    by_cases hs1 : 1 < k
    · refine own_st (g1 := (mkF m 20 #[.val (.ref a), .val (.int (Int32.ofNat n)), .val (.int (Int32.ofNat k))] [])) (fun zt zk => XS.icmpNo X0.here hx rfl (hb hby d6_17) rfl (tlt ((own_lt (i := 1) (j := k) (by omega) (by omega)).mpr hs1)).2.2.2 zk) ?_
      refine own_st (g1 := (mkF m 21 #[.val (.ref a), .val (.int (Int32.ofNat n)), .val (.int (Int32.ofNat k))] [(.ref a)])) (fun zt zk => XS.aloadN X0.here hx rfl (hb hby d6_20) rfl rfl zk) ?_
      refine own_st (g1 := (mkF m 22 #[.val (.ref a), .val (.int (Int32.ofNat n)), .val (.int (Int32.ofNat k))] [(.int (1 : Int32)), (.ref a)])) (fun zt zk => XS.iconst X0.here hx rfl (hb hby d6_21) zk) ?_
      refine own_st (g1 := (mkF m 23 #[.val (.ref a), .val (.int (Int32.ofNat n)), .val (.int (Int32.ofNat k))] [(.int (F 1))])) (own_cld X0 hx hZ e0 V (j := 1) (v := (.int (F 1))) rfl (by omega) (by omega) rfl (g := (mkF m 22 #[.val (.ref a), .val (.int (Int32.ofNat n)), .val (.int (Int32.ofNat k))] [(.int (1 : Int32)), (.ref a)])) rfl rfl (hb hby d6_22)) ?_
      refine own_st (g1 := (mkF m 24 #[.val (.ref a), .val (.int (Int32.ofNat n)), .val (.int (Int32.ofNat k))] [(.ref a), (.int (F 1))])) (fun zt zk => XS.aloadN X0.here hx rfl (hb hby d6_23) rfl rfl zk) ?_
      refine own_st (g1 := (mkF m 25 #[.val (.ref a), .val (.int (Int32.ofNat n)), .val (.int (Int32.ofNat k))] [(.int (Int32.ofNat n)), (.ref a), (.int (F 1))])) (fun zt zk => XS.iloadN X0.here hx rfl (hb hby d6_24) rfl zk) ?_
      refine own_st (g1 := (mkF m 26 #[.val (.ref a), .val (.int (Int32.ofNat n)), .val (.int (Int32.ofNat k))] [(.int (Int32.ofNat k)), (.int (Int32.ofNat n)), (.ref a), (.int (F 1))])) (fun zt zk => XS.iloadN X0.here hx rfl (hb hby d6_25) rfl zk) ?_
      refine own_st (g1 := (mkF m 27 #[.val (.ref a), .val (.int (Int32.ofNat n)), .val (.int (Int32.ofNat k))] [(.int ((Int32.ofNat n) - (Int32.ofNat k))), (.ref a), (.int (F 1))])) (fun zt zk => XS.isub X0.here hx rfl (hb hby d6_26) rfl zk) ?_
      refine own_st (g1 := (mkF m 28 #[.val (.ref a), .val (.int (Int32.ofNat n)), .val (.int (Int32.ofNat k))] [(.int (1 : Int32)), (.int ((Int32.ofNat n) - (Int32.ofNat k))), (.ref a), (.int (F 1))])) (fun zt zk => XS.iconst X0.here hx rfl (hb hby d6_27) zk) ?_
      refine own_st (g1 := (mkF m 29 #[.val (.ref a), .val (.int (Int32.ofNat n)), .val (.int (Int32.ofNat k))] [(.int (((Int32.ofNat n) - (Int32.ofNat k)) + (1 : Int32))), (.ref a), (.int (F 1))])) (fun zt zk => XS.iadd X0.here hx rfl (hb hby d6_28) rfl zk) ?_
      refine own_st (g1 := (mkF m 30 #[.val (.ref a), .val (.int (Int32.ofNat n)), .val (.int (Int32.ofNat k))] [(.int (F (n - k + 1))), (.int (F 1))])) (own_cld X0 hx hZ e0 V (j := (n - k + 1)) (v := (.int (F (n - k + 1)))) (by rw [own_diff (by omega)]; exact own_plus (n - k) 1) (by omega) (by omega) rfl (g := (mkF m 29 #[.val (.ref a), .val (.int (Int32.ofNat n)), .val (.int (Int32.ofNat k))] [(.int (((Int32.ofNat n) - (Int32.ofNat k)) + (1 : Int32))), (.ref a), (.int (F 1))])) rfl rfl (hb hby d6_29)) ?_
      by_cases ee1 : (F 1) = (F (n - k + 1))
      · refine own_st (g1 := (mkF m 33 #[.val (.ref a), .val (.int (Int32.ofNat n)), .val (.int (Int32.ofNat k))] [])) (fun zt zk => XS.icmpNo X0.here hx rfl (hb hby d6_30) rfl (teq ee1).2 zk) ?_
        refine own_st (g1 := (mkF m 34 #[.val (.ref a), .val (.int (Int32.ofNat n)), .val (.int (Int32.ofNat k))] [(.int (Int32.ofNat k))])) (fun zt zk => XS.iloadN X0.here hx rfl (hb hby d6_33) rfl zk) ?_
        refine own_st (g1 := (mkF m 35 #[.val (.ref a), .val (.int (Int32.ofNat n)), .val (.int (Int32.ofNat k))] [(.int (2 : Int32)), (.int (Int32.ofNat k))])) (fun zt zk => XS.iconst X0.here hx rfl (hb hby d6_34) zk) ?_
        by_cases hs2 : 2 < k
        · refine own_st (g1 := (mkF m 38 #[.val (.ref a), .val (.int (Int32.ofNat n)), .val (.int (Int32.ofNat k))] [])) (fun zt zk => XS.icmpNo X0.here hx rfl (hb hby d6_35) rfl (tlt ((own_lt (i := 2) (j := k) (by omega) (by omega)).mpr hs2)).2.2.2 zk) ?_
          refine own_st (g1 := (mkF m 39 #[.val (.ref a), .val (.int (Int32.ofNat n)), .val (.int (Int32.ofNat k))] [(.ref a)])) (fun zt zk => XS.aloadN X0.here hx rfl (hb hby d6_38) rfl rfl zk) ?_
          refine own_st (g1 := (mkF m 40 #[.val (.ref a), .val (.int (Int32.ofNat n)), .val (.int (Int32.ofNat k))] [(.int (2 : Int32)), (.ref a)])) (fun zt zk => XS.iconst X0.here hx rfl (hb hby d6_39) zk) ?_
          refine own_st (g1 := (mkF m 41 #[.val (.ref a), .val (.int (Int32.ofNat n)), .val (.int (Int32.ofNat k))] [(.int (F 2))])) (own_cld X0 hx hZ e0 V (j := 2) (v := (.int (F 2))) rfl (by omega) (by omega) rfl (g := (mkF m 40 #[.val (.ref a), .val (.int (Int32.ofNat n)), .val (.int (Int32.ofNat k))] [(.int (2 : Int32)), (.ref a)])) rfl rfl (hb hby d6_40)) ?_
          refine own_st (g1 := (mkF m 42 #[.val (.ref a), .val (.int (Int32.ofNat n)), .val (.int (Int32.ofNat k))] [(.ref a), (.int (F 2))])) (fun zt zk => XS.aloadN X0.here hx rfl (hb hby d6_41) rfl rfl zk) ?_
          refine own_st (g1 := (mkF m 43 #[.val (.ref a), .val (.int (Int32.ofNat n)), .val (.int (Int32.ofNat k))] [(.int (Int32.ofNat n)), (.ref a), (.int (F 2))])) (fun zt zk => XS.iloadN X0.here hx rfl (hb hby d6_42) rfl zk) ?_
          refine own_st (g1 := (mkF m 44 #[.val (.ref a), .val (.int (Int32.ofNat n)), .val (.int (Int32.ofNat k))] [(.int (Int32.ofNat k)), (.int (Int32.ofNat n)), (.ref a), (.int (F 2))])) (fun zt zk => XS.iloadN X0.here hx rfl (hb hby d6_43) rfl zk) ?_
          refine own_st (g1 := (mkF m 45 #[.val (.ref a), .val (.int (Int32.ofNat n)), .val (.int (Int32.ofNat k))] [(.int ((Int32.ofNat n) - (Int32.ofNat k))), (.ref a), (.int (F 2))])) (fun zt zk => XS.isub X0.here hx rfl (hb hby d6_44) rfl zk) ?_
          refine own_st (g1 := (mkF m 46 #[.val (.ref a), .val (.int (Int32.ofNat n)), .val (.int (Int32.ofNat k))] [(.int (2 : Int32)), (.int ((Int32.ofNat n) - (Int32.ofNat k))), (.ref a), (.int (F 2))])) (fun zt zk => XS.iconst X0.here hx rfl (hb hby d6_45) zk) ?_
          refine own_st (g1 := (mkF m 47 #[.val (.ref a), .val (.int (Int32.ofNat n)), .val (.int (Int32.ofNat k))] [(.int (((Int32.ofNat n) - (Int32.ofNat k)) + (2 : Int32))), (.ref a), (.int (F 2))])) (fun zt zk => XS.iadd X0.here hx rfl (hb hby d6_46) rfl zk) ?_
          refine own_st (g1 := (mkF m 48 #[.val (.ref a), .val (.int (Int32.ofNat n)), .val (.int (Int32.ofNat k))] [(.int (F (n - k + 2))), (.int (F 2))])) (own_cld X0 hx hZ e0 V (j := (n - k + 2)) (v := (.int (F (n - k + 2)))) (by rw [own_diff (by omega)]; exact own_plus (n - k) 2) (by omega) (by omega) rfl (g := (mkF m 47 #[.val (.ref a), .val (.int (Int32.ofNat n)), .val (.int (Int32.ofNat k))] [(.int (((Int32.ofNat n) - (Int32.ofNat k)) + (2 : Int32))), (.ref a), (.int (F 2))])) rfl rfl (hb hby d6_47)) ?_
          by_cases ee2 : (F 2) = (F (n - k + 2))
          · refine own_st (g1 := (mkF m 51 #[.val (.ref a), .val (.int (Int32.ofNat n)), .val (.int (Int32.ofNat k))] [])) (fun zt zk => XS.icmpNo X0.here hx rfl (hb hby d6_48) rfl (teq ee2).2 zk) ?_
            refine own_st (g1 := (mkF m 52 #[.val (.ref a), .val (.int (Int32.ofNat n)), .val (.int (Int32.ofNat k))] [(.int (Int32.ofNat k))])) (fun zt zk => XS.iloadN X0.here hx rfl (hb hby d6_51) rfl zk) ?_
            refine own_st (g1 := (mkF m 53 #[.val (.ref a), .val (.int (Int32.ofNat n)), .val (.int (Int32.ofNat k))] [(.int (3 : Int32)), (.int (Int32.ofNat k))])) (fun zt zk => XS.iconst X0.here hx rfl (hb hby d6_52) zk) ?_
            by_cases hs3 : 3 < k
            · refine own_st (g1 := (mkF m 56 #[.val (.ref a), .val (.int (Int32.ofNat n)), .val (.int (Int32.ofNat k))] [])) (fun zt zk => XS.icmpNo X0.here hx rfl (hb hby d6_53) rfl (tlt ((own_lt (i := 3) (j := k) (by omega) (by omega)).mpr hs3)).2.2.2 zk) ?_
              refine own_st (g1 := (mkF m 57 #[.val (.ref a), .val (.int (Int32.ofNat n)), .val (.int (Int32.ofNat k))] [(.ref a)])) (fun zt zk => XS.aloadN X0.here hx rfl (hb hby d6_56) rfl rfl zk) ?_
              refine own_st (g1 := (mkF m 58 #[.val (.ref a), .val (.int (Int32.ofNat n)), .val (.int (Int32.ofNat k))] [(.int (3 : Int32)), (.ref a)])) (fun zt zk => XS.iconst X0.here hx rfl (hb hby d6_57) zk) ?_
              refine own_st (g1 := (mkF m 59 #[.val (.ref a), .val (.int (Int32.ofNat n)), .val (.int (Int32.ofNat k))] [(.int (F 3))])) (own_cld X0 hx hZ e0 V (j := 3) (v := (.int (F 3))) rfl (by omega) (by omega) rfl (g := (mkF m 58 #[.val (.ref a), .val (.int (Int32.ofNat n)), .val (.int (Int32.ofNat k))] [(.int (3 : Int32)), (.ref a)])) rfl rfl (hb hby d6_58)) ?_
              refine own_st (g1 := (mkF m 60 #[.val (.ref a), .val (.int (Int32.ofNat n)), .val (.int (Int32.ofNat k))] [(.ref a), (.int (F 3))])) (fun zt zk => XS.aloadN X0.here hx rfl (hb hby d6_59) rfl rfl zk) ?_
              refine own_st (g1 := (mkF m 61 #[.val (.ref a), .val (.int (Int32.ofNat n)), .val (.int (Int32.ofNat k))] [(.int (Int32.ofNat n)), (.ref a), (.int (F 3))])) (fun zt zk => XS.iloadN X0.here hx rfl (hb hby d6_60) rfl zk) ?_
              refine own_st (g1 := (mkF m 62 #[.val (.ref a), .val (.int (Int32.ofNat n)), .val (.int (Int32.ofNat k))] [(.int (Int32.ofNat k)), (.int (Int32.ofNat n)), (.ref a), (.int (F 3))])) (fun zt zk => XS.iloadN X0.here hx rfl (hb hby d6_61) rfl zk) ?_
              refine own_st (g1 := (mkF m 63 #[.val (.ref a), .val (.int (Int32.ofNat n)), .val (.int (Int32.ofNat k))] [(.int ((Int32.ofNat n) - (Int32.ofNat k))), (.ref a), (.int (F 3))])) (fun zt zk => XS.isub X0.here hx rfl (hb hby d6_62) rfl zk) ?_
              refine own_st (g1 := (mkF m 64 #[.val (.ref a), .val (.int (Int32.ofNat n)), .val (.int (Int32.ofNat k))] [(.int (3 : Int32)), (.int ((Int32.ofNat n) - (Int32.ofNat k))), (.ref a), (.int (F 3))])) (fun zt zk => XS.iconst X0.here hx rfl (hb hby d6_63) zk) ?_
              refine own_st (g1 := (mkF m 65 #[.val (.ref a), .val (.int (Int32.ofNat n)), .val (.int (Int32.ofNat k))] [(.int (((Int32.ofNat n) - (Int32.ofNat k)) + (3 : Int32))), (.ref a), (.int (F 3))])) (fun zt zk => XS.iadd X0.here hx rfl (hb hby d6_64) rfl zk) ?_
              refine own_st (g1 := (mkF m 66 #[.val (.ref a), .val (.int (Int32.ofNat n)), .val (.int (Int32.ofNat k))] [(.int (F (n - k + 3))), (.int (F 3))])) (own_cld X0 hx hZ e0 V (j := (n - k + 3)) (v := (.int (F (n - k + 3)))) (by rw [own_diff (by omega)]; exact own_plus (n - k) 3) (by omega) (by omega) rfl (g := (mkF m 65 #[.val (.ref a), .val (.int (Int32.ofNat n)), .val (.int (Int32.ofNat k))] [(.int (((Int32.ofNat n) - (Int32.ofNat k)) + (3 : Int32))), (.ref a), (.int (F 3))])) rfl rfl (hb hby d6_65)) ?_
              by_cases ee3 : (F 3) = (F (n - k + 3))
              · refine own_st (g1 := (mkF m 69 #[.val (.ref a), .val (.int (Int32.ofNat n)), .val (.int (Int32.ofNat k))] [])) (fun zt zk => XS.icmpNo X0.here hx rfl (hb hby d6_66) rfl (teq ee3).2 zk) ?_
                refine own_st (g1 := (mkF m 70 #[.val (.ref a), .val (.int (Int32.ofNat n)), .val (.int (Int32.ofNat k))] [(.int (Int32.ofNat k))])) (fun zt zk => XS.iloadN X0.here hx rfl (hb hby d6_69) rfl zk) ?_
                refine own_st (g1 := (mkF m 71 #[.val (.ref a), .val (.int (Int32.ofNat n)), .val (.int (Int32.ofNat k))] [(.int (4 : Int32)), (.int (Int32.ofNat k))])) (fun zt zk => XS.iconst X0.here hx rfl (hb hby d6_70) zk) ?_
                by_cases hs4 : 4 < k
                · refine own_st (g1 := (mkF m 74 #[.val (.ref a), .val (.int (Int32.ofNat n)), .val (.int (Int32.ofNat k))] [])) (fun zt zk => XS.icmpNo X0.here hx rfl (hb hby d6_71) rfl (tlt ((own_lt (i := 4) (j := k) (by omega) (by omega)).mpr hs4)).2.2.2 zk) ?_
                  refine own_st (g1 := (mkF m 75 #[.val (.ref a), .val (.int (Int32.ofNat n)), .val (.int (Int32.ofNat k))] [(.ref a)])) (fun zt zk => XS.aloadN X0.here hx rfl (hb hby d6_74) rfl rfl zk) ?_
                  refine own_st (g1 := (mkF m 76 #[.val (.ref a), .val (.int (Int32.ofNat n)), .val (.int (Int32.ofNat k))] [(.int (4 : Int32)), (.ref a)])) (fun zt zk => XS.iconst X0.here hx rfl (hb hby d6_75) zk) ?_
                  refine own_st (g1 := (mkF m 77 #[.val (.ref a), .val (.int (Int32.ofNat n)), .val (.int (Int32.ofNat k))] [(.int (F 4))])) (own_cld X0 hx hZ e0 V (j := 4) (v := (.int (F 4))) rfl (by omega) (by omega) rfl (g := (mkF m 76 #[.val (.ref a), .val (.int (Int32.ofNat n)), .val (.int (Int32.ofNat k))] [(.int (4 : Int32)), (.ref a)])) rfl rfl (hb hby d6_76)) ?_
                  refine own_st (g1 := (mkF m 78 #[.val (.ref a), .val (.int (Int32.ofNat n)), .val (.int (Int32.ofNat k))] [(.ref a), (.int (F 4))])) (fun zt zk => XS.aloadN X0.here hx rfl (hb hby d6_77) rfl rfl zk) ?_
                  refine own_st (g1 := (mkF m 79 #[.val (.ref a), .val (.int (Int32.ofNat n)), .val (.int (Int32.ofNat k))] [(.int (Int32.ofNat n)), (.ref a), (.int (F 4))])) (fun zt zk => XS.iloadN X0.here hx rfl (hb hby d6_78) rfl zk) ?_
                  refine own_st (g1 := (mkF m 80 #[.val (.ref a), .val (.int (Int32.ofNat n)), .val (.int (Int32.ofNat k))] [(.int (Int32.ofNat k)), (.int (Int32.ofNat n)), (.ref a), (.int (F 4))])) (fun zt zk => XS.iloadN X0.here hx rfl (hb hby d6_79) rfl zk) ?_
                  refine own_st (g1 := (mkF m 81 #[.val (.ref a), .val (.int (Int32.ofNat n)), .val (.int (Int32.ofNat k))] [(.int ((Int32.ofNat n) - (Int32.ofNat k))), (.ref a), (.int (F 4))])) (fun zt zk => XS.isub X0.here hx rfl (hb hby d6_80) rfl zk) ?_
                  refine own_st (g1 := (mkF m 82 #[.val (.ref a), .val (.int (Int32.ofNat n)), .val (.int (Int32.ofNat k))] [(.int (4 : Int32)), (.int ((Int32.ofNat n) - (Int32.ofNat k))), (.ref a), (.int (F 4))])) (fun zt zk => XS.iconst X0.here hx rfl (hb hby d6_81) zk) ?_
                  refine own_st (g1 := (mkF m 83 #[.val (.ref a), .val (.int (Int32.ofNat n)), .val (.int (Int32.ofNat k))] [(.int (((Int32.ofNat n) - (Int32.ofNat k)) + (4 : Int32))), (.ref a), (.int (F 4))])) (fun zt zk => XS.iadd X0.here hx rfl (hb hby d6_82) rfl zk) ?_
                  refine own_st (g1 := (mkF m 84 #[.val (.ref a), .val (.int (Int32.ofNat n)), .val (.int (Int32.ofNat k))] [(.int (F (n - k + 4))), (.int (F 4))])) (own_cld X0 hx hZ e0 V (j := (n - k + 4)) (v := (.int (F (n - k + 4)))) (by rw [own_diff (by omega)]; exact own_plus (n - k) 4) (by omega) (by omega) rfl (g := (mkF m 83 #[.val (.ref a), .val (.int (Int32.ofNat n)), .val (.int (Int32.ofNat k))] [(.int (((Int32.ofNat n) - (Int32.ofNat k)) + (4 : Int32))), (.ref a), (.int (F 4))])) rfl rfl (hb hby d6_83)) ?_
                  by_cases ee4 : (F 4) = (F (n - k + 4))
                  · refine own_st (g1 := (mkF m 87 #[.val (.ref a), .val (.int (Int32.ofNat n)), .val (.int (Int32.ofNat k))] [])) (fun zt zk => XS.icmpNo X0.here hx rfl (hb hby d6_84) rfl (teq ee4).2 zk) ?_
                    refine own_st (g1 := (mkF m 88 #[.val (.ref a), .val (.int (Int32.ofNat n)), .val (.int (Int32.ofNat k))] [(.int (1 : Int32))])) (fun zt zk => XS.iconst X0.here hx rfl (hb hby d6_87) zk) ?_
                    refine own_st (g1 := (mkF m 92 #[.val (.ref a), .val (.int (Int32.ofNat n)), .val (.int (Int32.ofNat k))] [(.int (1 : Int32))])) (fun zt zk => XS.goto X0.here hx rfl (pc0 := 88) (pc' := 92) rfl (hb hby d6_88) (by decide) (by decide) zk) ?_
                    have hq : own_isb (own_E F) (n - k) k = true := own_isb_yes (fun j hj => by
                      have hj' : j = 0 ∨ j = 1 ∨ j = 2 ∨ j = 3 ∨ j = 4 := by omega
                      rcases hj' with rfl | rfl | rfl | rfl | rfl
                      · exact decide_eq_true ee0
                      · exact decide_eq_true ee1
                      · exact decide_eq_true ee2
                      · exact decide_eq_true ee3
                      · exact decide_eq_true ee4)
                    exact own_here X0 ⟨92, _, _, rfl, (hb hby d6_92), rfl, (by decide), (by decide), (by rw [e0]; exact ⟨by rw [hq]; rfl, Fr.nil n0, rfl⟩)⟩
                  · refine own_st (g1 := (mkF m 91 #[.val (.ref a), .val (.int (Int32.ofNat n)), .val (.int (Int32.ofNat k))] [])) (fun zt zk => XS.icmpYes X0.here hx rfl (pc0 := 84) (pc' := 91) rfl (hb hby d6_84) rfl (feq ee4).2 (by decide) (by decide) zk) ?_
                    refine own_st (g1 := (mkF m 92 #[.val (.ref a), .val (.int (Int32.ofNat n)), .val (.int (Int32.ofNat k))] [(.int (0 : Int32))])) (fun zt zk => XS.iconst X0.here hx rfl (hb hby d6_91) zk) ?_
                    have hq : own_isb (own_E F) (n - k) k = false := own_isb_no (j := 4) (by omega) (fun q => ee4 (of_decide_eq_true q))
                    exact own_here X0 ⟨92, _, _, rfl, (hb hby d6_92), rfl, (by decide), (by decide), (by rw [e0]; exact ⟨by rw [hq]; rfl, Fr.nil n0, rfl⟩)⟩
                · refine own_st (g1 := (mkF m 87 #[.val (.ref a), .val (.int (Int32.ofNat n)), .val (.int (Int32.ofNat k))] [])) (fun zt zk => XS.icmpYes X0.here hx rfl (pc0 := 71) (pc' := 87) rfl (hb hby d6_71) rfl (flt (fun u => hs4 ((own_lt (i := 4) (j := k) (by omega) (by omega)).mp u))).2.2.2 (by decide) (by decide) zk) ?_
                  refine own_st (g1 := (mkF m 88 #[.val (.ref a), .val (.int (Int32.ofNat n)), .val (.int (Int32.ofNat k))] [(.int (1 : Int32))])) (fun zt zk => XS.iconst X0.here hx rfl (hb hby d6_87) zk) ?_
                  refine own_st (g1 := (mkF m 92 #[.val (.ref a), .val (.int (Int32.ofNat n)), .val (.int (Int32.ofNat k))] [(.int (1 : Int32))])) (fun zt zk => XS.goto X0.here hx rfl (pc0 := 88) (pc' := 92) rfl (hb hby d6_88) (by decide) (by decide) zk) ?_
                  have hq : own_isb (own_E F) (n - k) k = true := own_isb_yes (fun j hj => by
                    have hj' : j = 0 ∨ j = 1 ∨ j = 2 ∨ j = 3 := by omega
                    rcases hj' with rfl | rfl | rfl | rfl
                    · exact decide_eq_true ee0
                    · exact decide_eq_true ee1
                    · exact decide_eq_true ee2
                    · exact decide_eq_true ee3)
                  exact own_here X0 ⟨92, _, _, rfl, (hb hby d6_92), rfl, (by decide), (by decide), (by rw [e0]; exact ⟨by rw [hq]; rfl, Fr.nil n0, rfl⟩)⟩
              · refine own_st (g1 := (mkF m 91 #[.val (.ref a), .val (.int (Int32.ofNat n)), .val (.int (Int32.ofNat k))] [])) (fun zt zk => XS.icmpYes X0.here hx rfl (pc0 := 66) (pc' := 91) rfl (hb hby d6_66) rfl (feq ee3).2 (by decide) (by decide) zk) ?_
                refine own_st (g1 := (mkF m 92 #[.val (.ref a), .val (.int (Int32.ofNat n)), .val (.int (Int32.ofNat k))] [(.int (0 : Int32))])) (fun zt zk => XS.iconst X0.here hx rfl (hb hby d6_91) zk) ?_
                have hq : own_isb (own_E F) (n - k) k = false := own_isb_no (j := 3) (by omega) (fun q => ee3 (of_decide_eq_true q))
                exact own_here X0 ⟨92, _, _, rfl, (hb hby d6_92), rfl, (by decide), (by decide), (by rw [e0]; exact ⟨by rw [hq]; rfl, Fr.nil n0, rfl⟩)⟩
            · refine own_st (g1 := (mkF m 87 #[.val (.ref a), .val (.int (Int32.ofNat n)), .val (.int (Int32.ofNat k))] [])) (fun zt zk => XS.icmpYes X0.here hx rfl (pc0 := 53) (pc' := 87) rfl (hb hby d6_53) rfl (flt (fun u => hs3 ((own_lt (i := 3) (j := k) (by omega) (by omega)).mp u))).2.2.2 (by decide) (by decide) zk) ?_
              refine own_st (g1 := (mkF m 88 #[.val (.ref a), .val (.int (Int32.ofNat n)), .val (.int (Int32.ofNat k))] [(.int (1 : Int32))])) (fun zt zk => XS.iconst X0.here hx rfl (hb hby d6_87) zk) ?_
              refine own_st (g1 := (mkF m 92 #[.val (.ref a), .val (.int (Int32.ofNat n)), .val (.int (Int32.ofNat k))] [(.int (1 : Int32))])) (fun zt zk => XS.goto X0.here hx rfl (pc0 := 88) (pc' := 92) rfl (hb hby d6_88) (by decide) (by decide) zk) ?_
              have hq : own_isb (own_E F) (n - k) k = true := own_isb_yes (fun j hj => by
                have hj' : j = 0 ∨ j = 1 ∨ j = 2 := by omega
                rcases hj' with rfl | rfl | rfl
                · exact decide_eq_true ee0
                · exact decide_eq_true ee1
                · exact decide_eq_true ee2)
              exact own_here X0 ⟨92, _, _, rfl, (hb hby d6_92), rfl, (by decide), (by decide), (by rw [e0]; exact ⟨by rw [hq]; rfl, Fr.nil n0, rfl⟩)⟩
          · refine own_st (g1 := (mkF m 91 #[.val (.ref a), .val (.int (Int32.ofNat n)), .val (.int (Int32.ofNat k))] [])) (fun zt zk => XS.icmpYes X0.here hx rfl (pc0 := 48) (pc' := 91) rfl (hb hby d6_48) rfl (feq ee2).2 (by decide) (by decide) zk) ?_
            refine own_st (g1 := (mkF m 92 #[.val (.ref a), .val (.int (Int32.ofNat n)), .val (.int (Int32.ofNat k))] [(.int (0 : Int32))])) (fun zt zk => XS.iconst X0.here hx rfl (hb hby d6_91) zk) ?_
            have hq : own_isb (own_E F) (n - k) k = false := own_isb_no (j := 2) (by omega) (fun q => ee2 (of_decide_eq_true q))
            exact own_here X0 ⟨92, _, _, rfl, (hb hby d6_92), rfl, (by decide), (by decide), (by rw [e0]; exact ⟨by rw [hq]; rfl, Fr.nil n0, rfl⟩)⟩
        · refine own_st (g1 := (mkF m 87 #[.val (.ref a), .val (.int (Int32.ofNat n)), .val (.int (Int32.ofNat k))] [])) (fun zt zk => XS.icmpYes X0.here hx rfl (pc0 := 35) (pc' := 87) rfl (hb hby d6_35) rfl (flt (fun u => hs2 ((own_lt (i := 2) (j := k) (by omega) (by omega)).mp u))).2.2.2 (by decide) (by decide) zk) ?_
          refine own_st (g1 := (mkF m 88 #[.val (.ref a), .val (.int (Int32.ofNat n)), .val (.int (Int32.ofNat k))] [(.int (1 : Int32))])) (fun zt zk => XS.iconst X0.here hx rfl (hb hby d6_87) zk) ?_
          refine own_st (g1 := (mkF m 92 #[.val (.ref a), .val (.int (Int32.ofNat n)), .val (.int (Int32.ofNat k))] [(.int (1 : Int32))])) (fun zt zk => XS.goto X0.here hx rfl (pc0 := 88) (pc' := 92) rfl (hb hby d6_88) (by decide) (by decide) zk) ?_
          have hq : own_isb (own_E F) (n - k) k = true := own_isb_yes (fun j hj => by
            have hj' : j = 0 ∨ j = 1 := by omega
            rcases hj' with rfl | rfl
            · exact decide_eq_true ee0
            · exact decide_eq_true ee1)
          exact own_here X0 ⟨92, _, _, rfl, (hb hby d6_92), rfl, (by decide), (by decide), (by rw [e0]; exact ⟨by rw [hq]; rfl, Fr.nil n0, rfl⟩)⟩
      · refine own_st (g1 := (mkF m 91 #[.val (.ref a), .val (.int (Int32.ofNat n)), .val (.int (Int32.ofNat k))] [])) (fun zt zk => XS.icmpYes X0.here hx rfl (pc0 := 30) (pc' := 91) rfl (hb hby d6_30) rfl (feq ee1).2 (by decide) (by decide) zk) ?_
        refine own_st (g1 := (mkF m 92 #[.val (.ref a), .val (.int (Int32.ofNat n)), .val (.int (Int32.ofNat k))] [(.int (0 : Int32))])) (fun zt zk => XS.iconst X0.here hx rfl (hb hby d6_91) zk) ?_
        have hq : own_isb (own_E F) (n - k) k = false := own_isb_no (j := 1) (by omega) (fun q => ee1 (of_decide_eq_true q))
        exact own_here X0 ⟨92, _, _, rfl, (hb hby d6_92), rfl, (by decide), (by decide), (by rw [e0]; exact ⟨by rw [hq]; rfl, Fr.nil n0, rfl⟩)⟩
    · refine own_st (g1 := (mkF m 87 #[.val (.ref a), .val (.int (Int32.ofNat n)), .val (.int (Int32.ofNat k))] [])) (fun zt zk => XS.icmpYes X0.here hx rfl (pc0 := 17) (pc' := 87) rfl (hb hby d6_17) rfl (flt (fun u => hs1 ((own_lt (i := 1) (j := k) (by omega) (by omega)).mp u))).2.2.2 (by decide) (by decide) zk) ?_
      refine own_st (g1 := (mkF m 88 #[.val (.ref a), .val (.int (Int32.ofNat n)), .val (.int (Int32.ofNat k))] [(.int (1 : Int32))])) (fun zt zk => XS.iconst X0.here hx rfl (hb hby d6_87) zk) ?_
      refine own_st (g1 := (mkF m 92 #[.val (.ref a), .val (.int (Int32.ofNat n)), .val (.int (Int32.ofNat k))] [(.int (1 : Int32))])) (fun zt zk => XS.goto X0.here hx rfl (pc0 := 88) (pc' := 92) rfl (hb hby d6_88) (by decide) (by decide) zk) ?_
      have hq : own_isb (own_E F) (n - k) k = true := own_isb_yes (fun j hj => by
        have hj' : j = 0 := by omega
        rcases hj' with rfl
        · exact decide_eq_true ee0)
      exact own_here X0 ⟨92, _, _, rfl, (hb hby d6_92), rfl, (by decide), (by decide), (by rw [e0]; exact ⟨by rw [hq]; rfl, Fr.nil n0, rfl⟩)⟩
  · refine own_st (g1 := (mkF m 91 #[.val (.ref a), .val (.int (Int32.ofNat n)), .val (.int (Int32.ofNat k))] [])) (fun zt zk => XS.icmpYes X0.here hx rfl (pc0 := 12) (pc' := 91) rfl (hb hby d6_12) rfl (feq ee0).2 (by decide) (by decide) zk) ?_
    refine own_st (g1 := (mkF m 92 #[.val (.ref a), .val (.int (Int32.ofNat n)), .val (.int (Int32.ofNat k))] [(.int (0 : Int32))])) (fun zt zk => XS.iconst X0.here hx rfl (hb hby d6_91) zk) ?_
    have hq : own_isb (own_E F) (n - k) k = false := own_isb_no (j := 0) (by omega) (fun q => ee0 (of_decide_eq_true q))
    exact own_here X0 ⟨92, _, _, rfl, (hb hby d6_92), rfl, (by decide), (by decide), (by rw [e0]; exact ⟨by rw [hq]; rfl, Fr.nil n0, rfl⟩)⟩
theorem d2_0 : decode method_5_code 0 = .ok (.iload_n 1, 1) := by decide +kernel
theorem d2_1 : decode method_5_code 1 = .ok (.iconst 5, 1) := by decide +kernel
theorem d2_2 : decode method_5_code 2 = .ok (.if_icmp .le 14, 3) := by decide +kernel
theorem d2_5 : decode method_5_code 5 = .ok (.aload_n 0, 1) := by decide +kernel
theorem d2_6 : decode method_5_code 6 = .ok (.iload_n 1, 1) := by decide +kernel
theorem d2_7 : decode method_5_code 7 = .ok (.iconst 5, 1) := by decide +kernel
theorem d2_8 : decode method_5_code 8 = .ok (.invokestatic 27, 3) := by decide +kernel
theorem d2_11 : decode method_5_code 11 = .ok (.ifCond .eq 5, 3) := by decide +kernel
theorem d2_14 : decode method_5_code 14 = .ok (.iconst 5, 1) := by decide +kernel
theorem d2_15 : decode method_5_code 15 = .ok (.ireturn, 1) := by decide +kernel
theorem d2_16 : decode method_5_code 16 = .ok (.iload_n 1, 1) := by decide +kernel
theorem d2_17 : decode method_5_code 17 = .ok (.iconst 4, 1) := by decide +kernel
theorem d2_18 : decode method_5_code 18 = .ok (.if_icmp .le 14, 3) := by decide +kernel
theorem d2_21 : decode method_5_code 21 = .ok (.aload_n 0, 1) := by decide +kernel
theorem d2_22 : decode method_5_code 22 = .ok (.iload_n 1, 1) := by decide +kernel
theorem d2_23 : decode method_5_code 23 = .ok (.iconst 4, 1) := by decide +kernel
theorem d2_24 : decode method_5_code 24 = .ok (.invokestatic 27, 3) := by decide +kernel
theorem d2_27 : decode method_5_code 27 = .ok (.ifCond .eq 5, 3) := by decide +kernel
theorem d2_30 : decode method_5_code 30 = .ok (.iconst 4, 1) := by decide +kernel
theorem d2_31 : decode method_5_code 31 = .ok (.ireturn, 1) := by decide +kernel
theorem d2_32 : decode method_5_code 32 = .ok (.iload_n 1, 1) := by decide +kernel
theorem d2_33 : decode method_5_code 33 = .ok (.iconst 3, 1) := by decide +kernel
theorem d2_34 : decode method_5_code 34 = .ok (.if_icmp .le 14, 3) := by decide +kernel
theorem d2_37 : decode method_5_code 37 = .ok (.aload_n 0, 1) := by decide +kernel
theorem d2_38 : decode method_5_code 38 = .ok (.iload_n 1, 1) := by decide +kernel
theorem d2_39 : decode method_5_code 39 = .ok (.iconst 3, 1) := by decide +kernel
theorem d2_40 : decode method_5_code 40 = .ok (.invokestatic 27, 3) := by decide +kernel
theorem d2_43 : decode method_5_code 43 = .ok (.ifCond .eq 5, 3) := by decide +kernel
theorem d2_46 : decode method_5_code 46 = .ok (.iconst 3, 1) := by decide +kernel
theorem d2_47 : decode method_5_code 47 = .ok (.ireturn, 1) := by decide +kernel
theorem d2_48 : decode method_5_code 48 = .ok (.iload_n 1, 1) := by decide +kernel
theorem d2_49 : decode method_5_code 49 = .ok (.iconst 2, 1) := by decide +kernel
theorem d2_50 : decode method_5_code 50 = .ok (.if_icmp .le 14, 3) := by decide +kernel
theorem d2_53 : decode method_5_code 53 = .ok (.aload_n 0, 1) := by decide +kernel
theorem d2_54 : decode method_5_code 54 = .ok (.iload_n 1, 1) := by decide +kernel
theorem d2_55 : decode method_5_code 55 = .ok (.iconst 2, 1) := by decide +kernel
theorem d2_56 : decode method_5_code 56 = .ok (.invokestatic 27, 3) := by decide +kernel
theorem d2_59 : decode method_5_code 59 = .ok (.ifCond .eq 5, 3) := by decide +kernel
theorem d2_62 : decode method_5_code 62 = .ok (.iconst 2, 1) := by decide +kernel
theorem d2_63 : decode method_5_code 63 = .ok (.ireturn, 1) := by decide +kernel
theorem d2_64 : decode method_5_code 64 = .ok (.iload_n 1, 1) := by decide +kernel
theorem d2_65 : decode method_5_code 65 = .ok (.iconst 1, 1) := by decide +kernel
theorem d2_66 : decode method_5_code 66 = .ok (.if_icmp .le 14, 3) := by decide +kernel
theorem d2_69 : decode method_5_code 69 = .ok (.aload_n 0, 1) := by decide +kernel
theorem d2_70 : decode method_5_code 70 = .ok (.iload_n 1, 1) := by decide +kernel
theorem d2_71 : decode method_5_code 71 = .ok (.iconst 1, 1) := by decide +kernel
theorem d2_72 : decode method_5_code 72 = .ok (.invokestatic 27, 3) := by decide +kernel
theorem d2_75 : decode method_5_code 75 = .ok (.ifCond .eq 5, 3) := by decide +kernel
theorem d2_78 : decode method_5_code 78 = .ok (.iconst 1, 1) := by decide +kernel
theorem d2_79 : decode method_5_code 79 = .ok (.ireturn, 1) := by decide +kernel
theorem d2_80 : decode method_5_code 80 = .ok (.iconst 0, 1) := by decide +kernel
theorem d2_81 : decode method_5_code 81 = .ok (.ireturn, 1) := by decide +kernel
theorem pn_2 : plainName "com/example/shiftwise/shiftwise/PrefixTableOverlapPinLaw" = true := by first | (simp [plainName, overriddenIn]; done) | decide +kernel
theorem ef_2 (m : MethodId) (x0 : Nat) (x1 : Int32) : entryFrame m #[(.ref x0), (.int x1)] 2 = mkF m 0 #[.val (.ref x0), .val (.int x1)] [] := by first | (simp [entryFrame, mkF, argsToLocals, Value.category]; done) | rfl
def Q2 (F : Nat → Int32) (n : Nat) (h0 : Heap) (n0 : Nat) (v : Option Value) (h : Heap) (L : List Loc) : Prop := v = some (.int (Int32.ofNat (own_lb (own_E F) n))) ∧ Fr n0 L ∧ h = h0
set_option maxRecDepth 65536 in
set_option maxHeartbeats 40000000 in
theorem rm2 (l : Launch) (Z : State) (a0 : Array Value) (hw : ∀ d ∈ tables_1, d.before a0 Z = true) (ws : List Jvm.Cond) (a : Nat) (n : Nat) (F : Nat → Int32) (h0 : Heap) (n0 : Nat) (hn6 : n ≤ 6) (V : VA Z h0 a .char n (fun j => .int (F j))) :
    Meets l Z (⟨"com/example/shiftwise/shiftwise/PrefixTableOverlapPinLaw", "longestBorder", "([CI)I"⟩ : MethodName) method_5_code 2 (some .int) ws ({ frames := 1, cells := 0, slots := 0, locals := 14 } : Room) #[(.ref a), (.int (Int32.ofNat n))] h0 0 0 (Q2 F n h0 n0) := by
  refine own_meets (plainFor_of_name pn_2) ?_
  intro p e s m below meth c s₁ hx hZ hby hml hown hnm hret hlk X0 e0
  have hown : s.vm.findClass "com/example/shiftwise/shiftwise/PrefixTableOverlapPinLaw" = some m.cls := hown
  have hnm : meth.name = "longestBorder" := hnm
  refine own_finN (l := l) (R := ({ frames := 1, cells := 0, slots := 0, locals := 14 } : Room)) (m := m) (args := #[(.ref a), (.int (Int32.ofNat n))]) (c := c) (by simp) hx hret hlk ?_
  refine own_cast (ef_2 m a (Int32.ofNat n)) ?_
  have N0 := Fr.nil n0
  by_cases g5 : 5 < n ∧ own_isb (own_E F) (n - 5) 5 = true
  · refine own_st (g1 := (mkF m 1 #[.val (.ref a), .val (.int (Int32.ofNat n))] [(.int (Int32.ofNat n))])) (fun zt zk => XS.iloadN X0.here hx rfl (hb hby d2_0) rfl zk) ?_
    refine own_st (g1 := (mkF m 2 #[.val (.ref a), .val (.int (Int32.ofNat n))] [(.int (5 : Int32)), (.int (Int32.ofNat n))])) (fun zt zk => XS.iconst X0.here hx rfl (hb hby d2_1) zk) ?_
    refine own_st (g1 := (mkF m 5 #[.val (.ref a), .val (.int (Int32.ofNat n))] [])) (fun zt zk => XS.icmpNo X0.here hx rfl (hb hby d2_2) rfl (tlt ((own_lt (i := 5) (j := n) (by omega) (by omega)).mpr g5.1)).2.2.2 zk) ?_
    refine own_st (g1 := (mkF m 6 #[.val (.ref a), .val (.int (Int32.ofNat n))] [(.ref a)])) (fun zt zk => XS.aloadN X0.here hx rfl (hb hby d2_5) rfl rfl zk) ?_
    refine own_st (g1 := (mkF m 7 #[.val (.ref a), .val (.int (Int32.ofNat n))] [(.int (Int32.ofNat n)), (.ref a)])) (fun zt zk => XS.iloadN X0.here hx rfl (hb hby d2_6) rfl zk) ?_
    refine own_st (g1 := (mkF m 8 #[.val (.ref a), .val (.int (Int32.ofNat n))] [(.int (5 : Int32)), (.int (Int32.ofNat n)), (.ref a)])) (fun zt zk => XS.iconst X0.here hx rfl (hb hby d2_7) zk) ?_
    obtain ⟨_, _, ⟨T1, L1, k1, n1⟩, -, X1, ⟨Lc1, hQ1, l1, y1, z1⟩, st1⟩ := Jvm.LawKit.callS X0 hx (y := (⟨"com/example/shiftwise/shiftwise/PrefixTableOverlapPinLaw", "isBorder", "([CII)Z"⟩ : MethodName)) hown (mvT hZ (hw _ (List.mem_of_getElem? (i := 28) rfl))) (mvT hZ (hw _ (List.mem_of_getElem? (i := 29) rfl))) (mvT hZ (hw _ (List.mem_of_getElem? (i := 3) rfl))) (mvT hZ (hw _ (List.mem_of_getElem? (i := 30) rfl))) (by decide) (backOf (W := 0) (rm6 l Z a0 hw [] a n 5 F h0 n0 (by decide) (by decide) g5.1 hn6 V) hZ (hw _ (List.mem_of_getElem? (i := 30) rfl)) (hw _ (List.mem_of_getElem? (i := 3) rfl)) (by decide) (by decide)) (g := (mkF m 8 #[.val (.ref a), .val (.int (Int32.ofNat n))] [(.int (5 : Int32)), (.int (Int32.ofNat n)), (.ref a)])) rfl (by rw [hml]; rfl) (argsL := [(.ref a), (.int (Int32.ofNat n)), (.int (5 : Int32))]) (rest := []) (lenOf pd_0 rfl) rfl (by show 2 * 0 + _ ≤ _; exact Nat.le_of_eq rfl) (hb hby d2_8) (fun _ _ => ⟨rfl, e0, (by decide : 0 + 0 ≤ _), (by decide : 0 + 0 ≤ _)⟩)
    dsimp only [Pt.U, Pt.locs, Pt.cells, Pt.slots] at X1 l1 y1 z1 st1 hQ1
    replace X1 := own_stand X1 l1 y1 z1
    clear l1 y1 z1
    obtain ⟨rfl, N1, hh1⟩ := hQ1
    refine own_st (g1 := (mkF m 11 #[.val (.ref a), .val (.int (Int32.ofNat n))] [(.int (own_01 (own_isb (own_E F) (n - 5) 5)))])) (st1) ?_
    have eh1 : T1.heap = h0 := hh1
    rw [g5.2]
    refine own_st (g1 := (mkF m 14 #[.val (.ref a), .val (.int (Int32.ofNat n))] [])) (fun zt zk => XS.ifNo X1.here hx rfl (hb hby d2_11) rfl ((if0 _ _).trans (feq (by decide)).1) zk) ?_
    refine own_st (g1 := (mkF m 15 #[.val (.ref a), .val (.int (Int32.ofNat n))] [(.int (5 : Int32))])) (fun zt zk => XS.iconst X1.here hx rfl (hb hby d2_14) zk) ?_
    have hv : own_lb (own_E F) n = 5 := by unfold own_lb; rw [if_pos g5]
    exact own_here X1 ⟨15, _, _, rfl, (hb hby d2_15), rfl, (by decide), (by decide), (by rw [eh1]; exact ⟨by rw [hv]; rfl, Fr.app N0 N1, rfl⟩)⟩
  · have hA5 : Goes p l e ({ frames := 1, cells := 0, slots := 0, locals := 14 } : Room) s m #[(.ref a), (.int (Int32.ofNat n))] below meth c s₁ (mkF m 0 #[.val (.ref a), .val (.int (Int32.ofNat n))] []) (fun T' L' k' n' g' => T'.heap = h0 ∧ Fr n0 L' ∧ k' = 0 ∧ n' = 0 ∧ g' = (mkF m 16 #[.val (.ref a), .val (.int (Int32.ofNat n))] [])) := by
      refine own_st (g1 := (mkF m 1 #[.val (.ref a), .val (.int (Int32.ofNat n))] [(.int (Int32.ofNat n))])) (fun zt zk => XS.iloadN X0.here hx rfl (hb hby d2_0) rfl zk) ?_
      refine own_st (g1 := (mkF m 2 #[.val (.ref a), .val (.int (Int32.ofNat n))] [(.int (5 : Int32)), (.int (Int32.ofNat n))])) (fun zt zk => XS.iconst X0.here hx rfl (hb hby d2_1) zk) ?_
      by_cases q1 : 5 < n
      · refine own_st (g1 := (mkF m 5 #[.val (.ref a), .val (.int (Int32.ofNat n))] [])) (fun zt zk => XS.icmpNo X0.here hx rfl (hb hby d2_2) rfl (tlt ((own_lt (i := 5) (j := n) (by omega) (by omega)).mpr q1)).2.2.2 zk) ?_
        refine own_st (g1 := (mkF m 6 #[.val (.ref a), .val (.int (Int32.ofNat n))] [(.ref a)])) (fun zt zk => XS.aloadN X0.here hx rfl (hb hby d2_5) rfl rfl zk) ?_
        refine own_st (g1 := (mkF m 7 #[.val (.ref a), .val (.int (Int32.ofNat n))] [(.int (Int32.ofNat n)), (.ref a)])) (fun zt zk => XS.iloadN X0.here hx rfl (hb hby d2_6) rfl zk) ?_
        refine own_st (g1 := (mkF m 8 #[.val (.ref a), .val (.int (Int32.ofNat n))] [(.int (5 : Int32)), (.int (Int32.ofNat n)), (.ref a)])) (fun zt zk => XS.iconst X0.here hx rfl (hb hby d2_7) zk) ?_
        obtain ⟨_, _, ⟨T2, L2, k2, n2⟩, -, X2, ⟨Lc2, hQ2, l2, y2, z2⟩, st2⟩ := Jvm.LawKit.callS X0 hx (y := (⟨"com/example/shiftwise/shiftwise/PrefixTableOverlapPinLaw", "isBorder", "([CII)Z"⟩ : MethodName)) hown (mvT hZ (hw _ (List.mem_of_getElem? (i := 28) rfl))) (mvT hZ (hw _ (List.mem_of_getElem? (i := 29) rfl))) (mvT hZ (hw _ (List.mem_of_getElem? (i := 3) rfl))) (mvT hZ (hw _ (List.mem_of_getElem? (i := 30) rfl))) (by decide) (backOf (W := 0) (rm6 l Z a0 hw [] a n 5 F h0 n0 (by decide) (by decide) q1 hn6 V) hZ (hw _ (List.mem_of_getElem? (i := 30) rfl)) (hw _ (List.mem_of_getElem? (i := 3) rfl)) (by decide) (by decide)) (g := (mkF m 8 #[.val (.ref a), .val (.int (Int32.ofNat n))] [(.int (5 : Int32)), (.int (Int32.ofNat n)), (.ref a)])) rfl (by rw [hml]; rfl) (argsL := [(.ref a), (.int (Int32.ofNat n)), (.int (5 : Int32))]) (rest := []) (lenOf pd_0 rfl) rfl (by show 2 * 0 + _ ≤ _; exact Nat.le_of_eq rfl) (hb hby d2_8) (fun _ _ => ⟨rfl, e0, (by decide : 0 + 0 ≤ _), (by decide : 0 + 0 ≤ _)⟩)
        dsimp only [Pt.U, Pt.locs, Pt.cells, Pt.slots] at X2 l2 y2 z2 st2 hQ2
        replace X2 := own_stand X2 l2 y2 z2
        clear l2 y2 z2
        obtain ⟨rfl, N2, hh2⟩ := hQ2
        refine own_st (g1 := (mkF m 11 #[.val (.ref a), .val (.int (Int32.ofNat n))] [(.int (own_01 (own_isb (own_E F) (n - 5) 5)))])) (st2) ?_
        have q2 : own_isb (own_E F) (n - 5) 5 = false := by rw [← Bool.not_eq_true]; exact fun q => g5 ⟨q1, q⟩
        rw [q2]
        refine own_st (g1 := (mkF m 16 #[.val (.ref a), .val (.int (Int32.ofNat n))] [])) (fun zt zk => XS.ifYes X2.here hx rfl (pc0 := 11) (pc' := 16) rfl (hb hby d2_11) rfl ((if0 _ _).trans (teq (by decide)).1) (by decide) (by decide) zk) ?_
        exact own_here X2 ⟨hh2, Fr.app N0 N2, rfl, rfl, rfl⟩
      · refine own_st (g1 := (mkF m 16 #[.val (.ref a), .val (.int (Int32.ofNat n))] [])) (fun zt zk => XS.icmpYes X0.here hx rfl (pc0 := 2) (pc' := 16) rfl (hb hby d2_2) rfl (flt (fun u => q1 ((own_lt (i := 5) (j := n) (by omega) (by omega)).mp u))).2.2.2 (by decide) (by decide) zk) ?_
        exact own_here X0 ⟨e0, N0, rfl, rfl, rfl⟩
    refine own_bind hA5 ?_
    rintro T5x L5x _ _ _ X5x ⟨e5x, N5x, rfl, rfl, rfl⟩
    by_cases g4 : 4 < n ∧ own_isb (own_E F) (n - 4) 4 = true
    · refine own_st (g1 := (mkF m 17 #[.val (.ref a), .val (.int (Int32.ofNat n))] [(.int (Int32.ofNat n))])) (fun zt zk => XS.iloadN X5x.here hx rfl (hb hby d2_16) rfl zk) ?_
      refine own_st (g1 := (mkF m 18 #[.val (.ref a), .val (.int (Int32.ofNat n))] [(.int (4 : Int32)), (.int (Int32.ofNat n))])) (fun zt zk => XS.iconst X5x.here hx rfl (hb hby d2_17) zk) ?_
      refine own_st (g1 := (mkF m 21 #[.val (.ref a), .val (.int (Int32.ofNat n))] [])) (fun zt zk => XS.icmpNo X5x.here hx rfl (hb hby d2_18) rfl (tlt ((own_lt (i := 4) (j := n) (by omega) (by omega)).mpr g4.1)).2.2.2 zk) ?_
      refine own_st (g1 := (mkF m 22 #[.val (.ref a), .val (.int (Int32.ofNat n))] [(.ref a)])) (fun zt zk => XS.aloadN X5x.here hx rfl (hb hby d2_21) rfl rfl zk) ?_
      refine own_st (g1 := (mkF m 23 #[.val (.ref a), .val (.int (Int32.ofNat n))] [(.int (Int32.ofNat n)), (.ref a)])) (fun zt zk => XS.iloadN X5x.here hx rfl (hb hby d2_22) rfl zk) ?_
      refine own_st (g1 := (mkF m 24 #[.val (.ref a), .val (.int (Int32.ofNat n))] [(.int (4 : Int32)), (.int (Int32.ofNat n)), (.ref a)])) (fun zt zk => XS.iconst X5x.here hx rfl (hb hby d2_23) zk) ?_
      obtain ⟨_, _, ⟨T3, L3, k3, n3⟩, -, X3, ⟨Lc3, hQ3, l3, y3, z3⟩, st3⟩ := Jvm.LawKit.callS X5x hx (y := (⟨"com/example/shiftwise/shiftwise/PrefixTableOverlapPinLaw", "isBorder", "([CII)Z"⟩ : MethodName)) hown (mvT hZ (hw _ (List.mem_of_getElem? (i := 28) rfl))) (mvT hZ (hw _ (List.mem_of_getElem? (i := 29) rfl))) (mvT hZ (hw _ (List.mem_of_getElem? (i := 3) rfl))) (mvT hZ (hw _ (List.mem_of_getElem? (i := 30) rfl))) (by decide) (backOf (W := 0) (rm6 l Z a0 hw [] a n 4 F h0 n0 (by decide) (by decide) g4.1 hn6 V) hZ (hw _ (List.mem_of_getElem? (i := 30) rfl)) (hw _ (List.mem_of_getElem? (i := 3) rfl)) (by decide) (by decide)) (g := (mkF m 24 #[.val (.ref a), .val (.int (Int32.ofNat n))] [(.int (4 : Int32)), (.int (Int32.ofNat n)), (.ref a)])) rfl (by rw [hml]; rfl) (argsL := [(.ref a), (.int (Int32.ofNat n)), (.int (4 : Int32))]) (rest := []) (lenOf pd_0 rfl) rfl (by show 2 * 0 + _ ≤ _; exact Nat.le_of_eq rfl) (hb hby d2_24) (fun _ _ => ⟨rfl, e5x, (by decide : 0 + 0 ≤ _), (by decide : 0 + 0 ≤ _)⟩)
      dsimp only [Pt.U, Pt.locs, Pt.cells, Pt.slots] at X3 l3 y3 z3 st3 hQ3
      replace X3 := own_stand X3 l3 y3 z3
      clear l3 y3 z3
      obtain ⟨rfl, N3, hh3⟩ := hQ3
      refine own_st (g1 := (mkF m 27 #[.val (.ref a), .val (.int (Int32.ofNat n))] [(.int (own_01 (own_isb (own_E F) (n - 4) 4)))])) (st3) ?_
      have eh3 : T3.heap = h0 := hh3
      rw [g4.2]
      refine own_st (g1 := (mkF m 30 #[.val (.ref a), .val (.int (Int32.ofNat n))] [])) (fun zt zk => XS.ifNo X3.here hx rfl (hb hby d2_27) rfl ((if0 _ _).trans (feq (by decide)).1) zk) ?_
      refine own_st (g1 := (mkF m 31 #[.val (.ref a), .val (.int (Int32.ofNat n))] [(.int (4 : Int32))])) (fun zt zk => XS.iconst X3.here hx rfl (hb hby d2_30) zk) ?_
      have hv : own_lb (own_E F) n = 4 := by unfold own_lb; rw [if_neg g5, if_pos g4]
      exact own_here X3 ⟨31, _, _, rfl, (hb hby d2_31), rfl, (by decide), (by decide), (by rw [eh3]; exact ⟨by rw [hv]; rfl, Fr.app N5x N3, rfl⟩)⟩
    · have hA4 : Goes p l e ({ frames := 1, cells := 0, slots := 0, locals := 14 } : Room) s m #[(.ref a), (.int (Int32.ofNat n))] below meth c T5x (mkF m 16 #[.val (.ref a), .val (.int (Int32.ofNat n))] []) (fun T' L' k' n' g' => T'.heap = h0 ∧ Fr n0 L' ∧ k' = 0 ∧ n' = 0 ∧ g' = (mkF m 32 #[.val (.ref a), .val (.int (Int32.ofNat n))] [])) := by
        refine own_st (g1 := (mkF m 17 #[.val (.ref a), .val (.int (Int32.ofNat n))] [(.int (Int32.ofNat n))])) (fun zt zk => XS.iloadN X5x.here hx rfl (hb hby d2_16) rfl zk) ?_
        refine own_st (g1 := (mkF m 18 #[.val (.ref a), .val (.int (Int32.ofNat n))] [(.int (4 : Int32)), (.int (Int32.ofNat n))])) (fun zt zk => XS.iconst X5x.here hx rfl (hb hby d2_17) zk) ?_
        by_cases q1 : 4 < n
        · refine own_st (g1 := (mkF m 21 #[.val (.ref a), .val (.int (Int32.ofNat n))] [])) (fun zt zk => XS.icmpNo X5x.here hx rfl (hb hby d2_18) rfl (tlt ((own_lt (i := 4) (j := n) (by omega) (by omega)).mpr q1)).2.2.2 zk) ?_
          refine own_st (g1 := (mkF m 22 #[.val (.ref a), .val (.int (Int32.ofNat n))] [(.ref a)])) (fun zt zk => XS.aloadN X5x.here hx rfl (hb hby d2_21) rfl rfl zk) ?_
          refine own_st (g1 := (mkF m 23 #[.val (.ref a), .val (.int (Int32.ofNat n))] [(.int (Int32.ofNat n)), (.ref a)])) (fun zt zk => XS.iloadN X5x.here hx rfl (hb hby d2_22) rfl zk) ?_
          refine own_st (g1 := (mkF m 24 #[.val (.ref a), .val (.int (Int32.ofNat n))] [(.int (4 : Int32)), (.int (Int32.ofNat n)), (.ref a)])) (fun zt zk => XS.iconst X5x.here hx rfl (hb hby d2_23) zk) ?_
          obtain ⟨_, _, ⟨T4, L4, k4, n4⟩, -, X4, ⟨Lc4, hQ4, l4, y4, z4⟩, st4⟩ := Jvm.LawKit.callS X5x hx (y := (⟨"com/example/shiftwise/shiftwise/PrefixTableOverlapPinLaw", "isBorder", "([CII)Z"⟩ : MethodName)) hown (mvT hZ (hw _ (List.mem_of_getElem? (i := 28) rfl))) (mvT hZ (hw _ (List.mem_of_getElem? (i := 29) rfl))) (mvT hZ (hw _ (List.mem_of_getElem? (i := 3) rfl))) (mvT hZ (hw _ (List.mem_of_getElem? (i := 30) rfl))) (by decide) (backOf (W := 0) (rm6 l Z a0 hw [] a n 4 F h0 n0 (by decide) (by decide) q1 hn6 V) hZ (hw _ (List.mem_of_getElem? (i := 30) rfl)) (hw _ (List.mem_of_getElem? (i := 3) rfl)) (by decide) (by decide)) (g := (mkF m 24 #[.val (.ref a), .val (.int (Int32.ofNat n))] [(.int (4 : Int32)), (.int (Int32.ofNat n)), (.ref a)])) rfl (by rw [hml]; rfl) (argsL := [(.ref a), (.int (Int32.ofNat n)), (.int (4 : Int32))]) (rest := []) (lenOf pd_0 rfl) rfl (by show 2 * 0 + _ ≤ _; exact Nat.le_of_eq rfl) (hb hby d2_24) (fun _ _ => ⟨rfl, e5x, (by decide : 0 + 0 ≤ _), (by decide : 0 + 0 ≤ _)⟩)
          dsimp only [Pt.U, Pt.locs, Pt.cells, Pt.slots] at X4 l4 y4 z4 st4 hQ4
          replace X4 := own_stand X4 l4 y4 z4
          clear l4 y4 z4
          obtain ⟨rfl, N4, hh4⟩ := hQ4
          refine own_st (g1 := (mkF m 27 #[.val (.ref a), .val (.int (Int32.ofNat n))] [(.int (own_01 (own_isb (own_E F) (n - 4) 4)))])) (st4) ?_
          have q2 : own_isb (own_E F) (n - 4) 4 = false := by rw [← Bool.not_eq_true]; exact fun q => g4 ⟨q1, q⟩
          rw [q2]
          refine own_st (g1 := (mkF m 32 #[.val (.ref a), .val (.int (Int32.ofNat n))] [])) (fun zt zk => XS.ifYes X4.here hx rfl (pc0 := 27) (pc' := 32) rfl (hb hby d2_27) rfl ((if0 _ _).trans (teq (by decide)).1) (by decide) (by decide) zk) ?_
          exact own_here X4 ⟨hh4, Fr.app N5x N4, rfl, rfl, rfl⟩
        · refine own_st (g1 := (mkF m 32 #[.val (.ref a), .val (.int (Int32.ofNat n))] [])) (fun zt zk => XS.icmpYes X5x.here hx rfl (pc0 := 18) (pc' := 32) rfl (hb hby d2_18) rfl (flt (fun u => q1 ((own_lt (i := 4) (j := n) (by omega) (by omega)).mp u))).2.2.2 (by decide) (by decide) zk) ?_
          exact own_here X5x ⟨e5x, N5x, rfl, rfl, rfl⟩
      refine own_bind hA4 ?_
      rintro T4x L4x _ _ _ X4x ⟨e4x, N4x, rfl, rfl, rfl⟩
      by_cases g3 : 3 < n ∧ own_isb (own_E F) (n - 3) 3 = true
      · refine own_st (g1 := (mkF m 33 #[.val (.ref a), .val (.int (Int32.ofNat n))] [(.int (Int32.ofNat n))])) (fun zt zk => XS.iloadN X4x.here hx rfl (hb hby d2_32) rfl zk) ?_
        refine own_st (g1 := (mkF m 34 #[.val (.ref a), .val (.int (Int32.ofNat n))] [(.int (3 : Int32)), (.int (Int32.ofNat n))])) (fun zt zk => XS.iconst X4x.here hx rfl (hb hby d2_33) zk) ?_
        refine own_st (g1 := (mkF m 37 #[.val (.ref a), .val (.int (Int32.ofNat n))] [])) (fun zt zk => XS.icmpNo X4x.here hx rfl (hb hby d2_34) rfl (tlt ((own_lt (i := 3) (j := n) (by omega) (by omega)).mpr g3.1)).2.2.2 zk) ?_
        refine own_st (g1 := (mkF m 38 #[.val (.ref a), .val (.int (Int32.ofNat n))] [(.ref a)])) (fun zt zk => XS.aloadN X4x.here hx rfl (hb hby d2_37) rfl rfl zk) ?_
        refine own_st (g1 := (mkF m 39 #[.val (.ref a), .val (.int (Int32.ofNat n))] [(.int (Int32.ofNat n)), (.ref a)])) (fun zt zk => XS.iloadN X4x.here hx rfl (hb hby d2_38) rfl zk) ?_
        refine own_st (g1 := (mkF m 40 #[.val (.ref a), .val (.int (Int32.ofNat n))] [(.int (3 : Int32)), (.int (Int32.ofNat n)), (.ref a)])) (fun zt zk => XS.iconst X4x.here hx rfl (hb hby d2_39) zk) ?_
        obtain ⟨_, _, ⟨T5, L5, k5, n5⟩, -, X5, ⟨Lc5, hQ5, l5, y5, z5⟩, st5⟩ := Jvm.LawKit.callS X4x hx (y := (⟨"com/example/shiftwise/shiftwise/PrefixTableOverlapPinLaw", "isBorder", "([CII)Z"⟩ : MethodName)) hown (mvT hZ (hw _ (List.mem_of_getElem? (i := 28) rfl))) (mvT hZ (hw _ (List.mem_of_getElem? (i := 29) rfl))) (mvT hZ (hw _ (List.mem_of_getElem? (i := 3) rfl))) (mvT hZ (hw _ (List.mem_of_getElem? (i := 30) rfl))) (by decide) (backOf (W := 0) (rm6 l Z a0 hw [] a n 3 F h0 n0 (by decide) (by decide) g3.1 hn6 V) hZ (hw _ (List.mem_of_getElem? (i := 30) rfl)) (hw _ (List.mem_of_getElem? (i := 3) rfl)) (by decide) (by decide)) (g := (mkF m 40 #[.val (.ref a), .val (.int (Int32.ofNat n))] [(.int (3 : Int32)), (.int (Int32.ofNat n)), (.ref a)])) rfl (by rw [hml]; rfl) (argsL := [(.ref a), (.int (Int32.ofNat n)), (.int (3 : Int32))]) (rest := []) (lenOf pd_0 rfl) rfl (by show 2 * 0 + _ ≤ _; exact Nat.le_of_eq rfl) (hb hby d2_40) (fun _ _ => ⟨rfl, e4x, (by decide : 0 + 0 ≤ _), (by decide : 0 + 0 ≤ _)⟩)
        dsimp only [Pt.U, Pt.locs, Pt.cells, Pt.slots] at X5 l5 y5 z5 st5 hQ5
        replace X5 := own_stand X5 l5 y5 z5
        clear l5 y5 z5
        obtain ⟨rfl, N5, hh5⟩ := hQ5
        refine own_st (g1 := (mkF m 43 #[.val (.ref a), .val (.int (Int32.ofNat n))] [(.int (own_01 (own_isb (own_E F) (n - 3) 3)))])) (st5) ?_
        have eh5 : T5.heap = h0 := hh5
        rw [g3.2]
        refine own_st (g1 := (mkF m 46 #[.val (.ref a), .val (.int (Int32.ofNat n))] [])) (fun zt zk => XS.ifNo X5.here hx rfl (hb hby d2_43) rfl ((if0 _ _).trans (feq (by decide)).1) zk) ?_
        refine own_st (g1 := (mkF m 47 #[.val (.ref a), .val (.int (Int32.ofNat n))] [(.int (3 : Int32))])) (fun zt zk => XS.iconst X5.here hx rfl (hb hby d2_46) zk) ?_
        have hv : own_lb (own_E F) n = 3 := by unfold own_lb; rw [if_neg g5, if_neg g4, if_pos g3]
        exact own_here X5 ⟨47, _, _, rfl, (hb hby d2_47), rfl, (by decide), (by decide), (by rw [eh5]; exact ⟨by rw [hv]; rfl, Fr.app N4x N5, rfl⟩)⟩
      · have hA3 : Goes p l e ({ frames := 1, cells := 0, slots := 0, locals := 14 } : Room) s m #[(.ref a), (.int (Int32.ofNat n))] below meth c T4x (mkF m 32 #[.val (.ref a), .val (.int (Int32.ofNat n))] []) (fun T' L' k' n' g' => T'.heap = h0 ∧ Fr n0 L' ∧ k' = 0 ∧ n' = 0 ∧ g' = (mkF m 48 #[.val (.ref a), .val (.int (Int32.ofNat n))] [])) := by
          refine own_st (g1 := (mkF m 33 #[.val (.ref a), .val (.int (Int32.ofNat n))] [(.int (Int32.ofNat n))])) (fun zt zk => XS.iloadN X4x.here hx rfl (hb hby d2_32) rfl zk) ?_
          refine own_st (g1 := (mkF m 34 #[.val (.ref a), .val (.int (Int32.ofNat n))] [(.int (3 : Int32)), (.int (Int32.ofNat n))])) (fun zt zk => XS.iconst X4x.here hx rfl (hb hby d2_33) zk) ?_
          by_cases q1 : 3 < n
          · refine own_st (g1 := (mkF m 37 #[.val (.ref a), .val (.int (Int32.ofNat n))] [])) (fun zt zk => XS.icmpNo X4x.here hx rfl (hb hby d2_34) rfl (tlt ((own_lt (i := 3) (j := n) (by omega) (by omega)).mpr q1)).2.2.2 zk) ?_
            refine own_st (g1 := (mkF m 38 #[.val (.ref a), .val (.int (Int32.ofNat n))] [(.ref a)])) (fun zt zk => XS.aloadN X4x.here hx rfl (hb hby d2_37) rfl rfl zk) ?_
            refine own_st (g1 := (mkF m 39 #[.val (.ref a), .val (.int (Int32.ofNat n))] [(.int (Int32.ofNat n)), (.ref a)])) (fun zt zk => XS.iloadN X4x.here hx rfl (hb hby d2_38) rfl zk) ?_
            refine own_st (g1 := (mkF m 40 #[.val (.ref a), .val (.int (Int32.ofNat n))] [(.int (3 : Int32)), (.int (Int32.ofNat n)), (.ref a)])) (fun zt zk => XS.iconst X4x.here hx rfl (hb hby d2_39) zk) ?_
            obtain ⟨_, _, ⟨T6, L6, k6, n6⟩, -, X6, ⟨Lc6, hQ6, l6, y6, z6⟩, st6⟩ := Jvm.LawKit.callS X4x hx (y := (⟨"com/example/shiftwise/shiftwise/PrefixTableOverlapPinLaw", "isBorder", "([CII)Z"⟩ : MethodName)) hown (mvT hZ (hw _ (List.mem_of_getElem? (i := 28) rfl))) (mvT hZ (hw _ (List.mem_of_getElem? (i := 29) rfl))) (mvT hZ (hw _ (List.mem_of_getElem? (i := 3) rfl))) (mvT hZ (hw _ (List.mem_of_getElem? (i := 30) rfl))) (by decide) (backOf (W := 0) (rm6 l Z a0 hw [] a n 3 F h0 n0 (by decide) (by decide) q1 hn6 V) hZ (hw _ (List.mem_of_getElem? (i := 30) rfl)) (hw _ (List.mem_of_getElem? (i := 3) rfl)) (by decide) (by decide)) (g := (mkF m 40 #[.val (.ref a), .val (.int (Int32.ofNat n))] [(.int (3 : Int32)), (.int (Int32.ofNat n)), (.ref a)])) rfl (by rw [hml]; rfl) (argsL := [(.ref a), (.int (Int32.ofNat n)), (.int (3 : Int32))]) (rest := []) (lenOf pd_0 rfl) rfl (by show 2 * 0 + _ ≤ _; exact Nat.le_of_eq rfl) (hb hby d2_40) (fun _ _ => ⟨rfl, e4x, (by decide : 0 + 0 ≤ _), (by decide : 0 + 0 ≤ _)⟩)
            dsimp only [Pt.U, Pt.locs, Pt.cells, Pt.slots] at X6 l6 y6 z6 st6 hQ6
            replace X6 := own_stand X6 l6 y6 z6
            clear l6 y6 z6
            obtain ⟨rfl, N6, hh6⟩ := hQ6
            refine own_st (g1 := (mkF m 43 #[.val (.ref a), .val (.int (Int32.ofNat n))] [(.int (own_01 (own_isb (own_E F) (n - 3) 3)))])) (st6) ?_
            have q2 : own_isb (own_E F) (n - 3) 3 = false := by rw [← Bool.not_eq_true]; exact fun q => g3 ⟨q1, q⟩
            rw [q2]
            refine own_st (g1 := (mkF m 48 #[.val (.ref a), .val (.int (Int32.ofNat n))] [])) (fun zt zk => XS.ifYes X6.here hx rfl (pc0 := 43) (pc' := 48) rfl (hb hby d2_43) rfl ((if0 _ _).trans (teq (by decide)).1) (by decide) (by decide) zk) ?_
            exact own_here X6 ⟨hh6, Fr.app N4x N6, rfl, rfl, rfl⟩
          · refine own_st (g1 := (mkF m 48 #[.val (.ref a), .val (.int (Int32.ofNat n))] [])) (fun zt zk => XS.icmpYes X4x.here hx rfl (pc0 := 34) (pc' := 48) rfl (hb hby d2_34) rfl (flt (fun u => q1 ((own_lt (i := 3) (j := n) (by omega) (by omega)).mp u))).2.2.2 (by decide) (by decide) zk) ?_
            exact own_here X4x ⟨e4x, N4x, rfl, rfl, rfl⟩
        refine own_bind hA3 ?_
        rintro T3x L3x _ _ _ X3x ⟨e3x, N3x, rfl, rfl, rfl⟩
        by_cases g2 : 2 < n ∧ own_isb (own_E F) (n - 2) 2 = true
        · refine own_st (g1 := (mkF m 49 #[.val (.ref a), .val (.int (Int32.ofNat n))] [(.int (Int32.ofNat n))])) (fun zt zk => XS.iloadN X3x.here hx rfl (hb hby d2_48) rfl zk) ?_
          refine own_st (g1 := (mkF m 50 #[.val (.ref a), .val (.int (Int32.ofNat n))] [(.int (2 : Int32)), (.int (Int32.ofNat n))])) (fun zt zk => XS.iconst X3x.here hx rfl (hb hby d2_49) zk) ?_
          refine own_st (g1 := (mkF m 53 #[.val (.ref a), .val (.int (Int32.ofNat n))] [])) (fun zt zk => XS.icmpNo X3x.here hx rfl (hb hby d2_50) rfl (tlt ((own_lt (i := 2) (j := n) (by omega) (by omega)).mpr g2.1)).2.2.2 zk) ?_
          refine own_st (g1 := (mkF m 54 #[.val (.ref a), .val (.int (Int32.ofNat n))] [(.ref a)])) (fun zt zk => XS.aloadN X3x.here hx rfl (hb hby d2_53) rfl rfl zk) ?_
          refine own_st (g1 := (mkF m 55 #[.val (.ref a), .val (.int (Int32.ofNat n))] [(.int (Int32.ofNat n)), (.ref a)])) (fun zt zk => XS.iloadN X3x.here hx rfl (hb hby d2_54) rfl zk) ?_
          refine own_st (g1 := (mkF m 56 #[.val (.ref a), .val (.int (Int32.ofNat n))] [(.int (2 : Int32)), (.int (Int32.ofNat n)), (.ref a)])) (fun zt zk => XS.iconst X3x.here hx rfl (hb hby d2_55) zk) ?_
          obtain ⟨_, _, ⟨T7, L7, k7, n7⟩, -, X7, ⟨Lc7, hQ7, l7, y7, z7⟩, st7⟩ := Jvm.LawKit.callS X3x hx (y := (⟨"com/example/shiftwise/shiftwise/PrefixTableOverlapPinLaw", "isBorder", "([CII)Z"⟩ : MethodName)) hown (mvT hZ (hw _ (List.mem_of_getElem? (i := 28) rfl))) (mvT hZ (hw _ (List.mem_of_getElem? (i := 29) rfl))) (mvT hZ (hw _ (List.mem_of_getElem? (i := 3) rfl))) (mvT hZ (hw _ (List.mem_of_getElem? (i := 30) rfl))) (by decide) (backOf (W := 0) (rm6 l Z a0 hw [] a n 2 F h0 n0 (by decide) (by decide) g2.1 hn6 V) hZ (hw _ (List.mem_of_getElem? (i := 30) rfl)) (hw _ (List.mem_of_getElem? (i := 3) rfl)) (by decide) (by decide)) (g := (mkF m 56 #[.val (.ref a), .val (.int (Int32.ofNat n))] [(.int (2 : Int32)), (.int (Int32.ofNat n)), (.ref a)])) rfl (by rw [hml]; rfl) (argsL := [(.ref a), (.int (Int32.ofNat n)), (.int (2 : Int32))]) (rest := []) (lenOf pd_0 rfl) rfl (by show 2 * 0 + _ ≤ _; exact Nat.le_of_eq rfl) (hb hby d2_56) (fun _ _ => ⟨rfl, e3x, (by decide : 0 + 0 ≤ _), (by decide : 0 + 0 ≤ _)⟩)
          dsimp only [Pt.U, Pt.locs, Pt.cells, Pt.slots] at X7 l7 y7 z7 st7 hQ7
          replace X7 := own_stand X7 l7 y7 z7
          clear l7 y7 z7
          obtain ⟨rfl, N7, hh7⟩ := hQ7
          refine own_st (g1 := (mkF m 59 #[.val (.ref a), .val (.int (Int32.ofNat n))] [(.int (own_01 (own_isb (own_E F) (n - 2) 2)))])) (st7) ?_
          have eh7 : T7.heap = h0 := hh7
          rw [g2.2]
          refine own_st (g1 := (mkF m 62 #[.val (.ref a), .val (.int (Int32.ofNat n))] [])) (fun zt zk => XS.ifNo X7.here hx rfl (hb hby d2_59) rfl ((if0 _ _).trans (feq (by decide)).1) zk) ?_
          refine own_st (g1 := (mkF m 63 #[.val (.ref a), .val (.int (Int32.ofNat n))] [(.int (2 : Int32))])) (fun zt zk => XS.iconst X7.here hx rfl (hb hby d2_62) zk) ?_
          have hv : own_lb (own_E F) n = 2 := by unfold own_lb; rw [if_neg g5, if_neg g4, if_neg g3, if_pos g2]
          exact own_here X7 ⟨63, _, _, rfl, (hb hby d2_63), rfl, (by decide), (by decide), (by rw [eh7]; exact ⟨by rw [hv]; rfl, Fr.app N3x N7, rfl⟩)⟩
        · have hA2 : Goes p l e ({ frames := 1, cells := 0, slots := 0, locals := 14 } : Room) s m #[(.ref a), (.int (Int32.ofNat n))] below meth c T3x (mkF m 48 #[.val (.ref a), .val (.int (Int32.ofNat n))] []) (fun T' L' k' n' g' => T'.heap = h0 ∧ Fr n0 L' ∧ k' = 0 ∧ n' = 0 ∧ g' = (mkF m 64 #[.val (.ref a), .val (.int (Int32.ofNat n))] [])) := by
            refine own_st (g1 := (mkF m 49 #[.val (.ref a), .val (.int (Int32.ofNat n))] [(.int (Int32.ofNat n))])) (fun zt zk => XS.iloadN X3x.here hx rfl (hb hby d2_48) rfl zk) ?_
            refine own_st (g1 := (mkF m 50 #[.val (.ref a), .val (.int (Int32.ofNat n))] [(.int (2 : Int32)), (.int (Int32.ofNat n))])) (fun zt zk => XS.iconst X3x.here hx rfl (hb hby d2_49) zk) ?_
            by_cases q1 : 2 < n
            · refine own_st (g1 := (mkF m 53 #[.val (.ref a), .val (.int (Int32.ofNat n))] [])) (fun zt zk => XS.icmpNo X3x.here hx rfl (hb hby d2_50) rfl (tlt ((own_lt (i := 2) (j := n) (by omega) (by omega)).mpr q1)).2.2.2 zk) ?_
              refine own_st (g1 := (mkF m 54 #[.val (.ref a), .val (.int (Int32.ofNat n))] [(.ref a)])) (fun zt zk => XS.aloadN X3x.here hx rfl (hb hby d2_53) rfl rfl zk) ?_
              refine own_st (g1 := (mkF m 55 #[.val (.ref a), .val (.int (Int32.ofNat n))] [(.int (Int32.ofNat n)), (.ref a)])) (fun zt zk => XS.iloadN X3x.here hx rfl (hb hby d2_54) rfl zk) ?_
              refine own_st (g1 := (mkF m 56 #[.val (.ref a), .val (.int (Int32.ofNat n))] [(.int (2 : Int32)), (.int (Int32.ofNat n)), (.ref a)])) (fun zt zk => XS.iconst X3x.here hx rfl (hb hby d2_55) zk) ?_
              obtain ⟨_, _, ⟨T8, L8, k8, n8⟩, -, X8, ⟨Lc8, hQ8, l8, y8, z8⟩, st8⟩ := Jvm.LawKit.callS X3x hx (y := (⟨"com/example/shiftwise/shiftwise/PrefixTableOverlapPinLaw", "isBorder", "([CII)Z"⟩ : MethodName)) hown (mvT hZ (hw _ (List.mem_of_getElem? (i := 28) rfl))) (mvT hZ (hw _ (List.mem_of_getElem? (i := 29) rfl))) (mvT hZ (hw _ (List.mem_of_getElem? (i := 3) rfl))) (mvT hZ (hw _ (List.mem_of_getElem? (i := 30) rfl))) (by decide) (backOf (W := 0) (rm6 l Z a0 hw [] a n 2 F h0 n0 (by decide) (by decide) q1 hn6 V) hZ (hw _ (List.mem_of_getElem? (i := 30) rfl)) (hw _ (List.mem_of_getElem? (i := 3) rfl)) (by decide) (by decide)) (g := (mkF m 56 #[.val (.ref a), .val (.int (Int32.ofNat n))] [(.int (2 : Int32)), (.int (Int32.ofNat n)), (.ref a)])) rfl (by rw [hml]; rfl) (argsL := [(.ref a), (.int (Int32.ofNat n)), (.int (2 : Int32))]) (rest := []) (lenOf pd_0 rfl) rfl (by show 2 * 0 + _ ≤ _; exact Nat.le_of_eq rfl) (hb hby d2_56) (fun _ _ => ⟨rfl, e3x, (by decide : 0 + 0 ≤ _), (by decide : 0 + 0 ≤ _)⟩)
              dsimp only [Pt.U, Pt.locs, Pt.cells, Pt.slots] at X8 l8 y8 z8 st8 hQ8
              replace X8 := own_stand X8 l8 y8 z8
              clear l8 y8 z8
              obtain ⟨rfl, N8, hh8⟩ := hQ8
              refine own_st (g1 := (mkF m 59 #[.val (.ref a), .val (.int (Int32.ofNat n))] [(.int (own_01 (own_isb (own_E F) (n - 2) 2)))])) (st8) ?_
              have q2 : own_isb (own_E F) (n - 2) 2 = false := by rw [← Bool.not_eq_true]; exact fun q => g2 ⟨q1, q⟩
              rw [q2]
              refine own_st (g1 := (mkF m 64 #[.val (.ref a), .val (.int (Int32.ofNat n))] [])) (fun zt zk => XS.ifYes X8.here hx rfl (pc0 := 59) (pc' := 64) rfl (hb hby d2_59) rfl ((if0 _ _).trans (teq (by decide)).1) (by decide) (by decide) zk) ?_
              exact own_here X8 ⟨hh8, Fr.app N3x N8, rfl, rfl, rfl⟩
            · refine own_st (g1 := (mkF m 64 #[.val (.ref a), .val (.int (Int32.ofNat n))] [])) (fun zt zk => XS.icmpYes X3x.here hx rfl (pc0 := 50) (pc' := 64) rfl (hb hby d2_50) rfl (flt (fun u => q1 ((own_lt (i := 2) (j := n) (by omega) (by omega)).mp u))).2.2.2 (by decide) (by decide) zk) ?_
              exact own_here X3x ⟨e3x, N3x, rfl, rfl, rfl⟩
          refine own_bind hA2 ?_
          rintro T2x L2x _ _ _ X2x ⟨e2x, N2x, rfl, rfl, rfl⟩
          by_cases g1 : 1 < n ∧ own_isb (own_E F) (n - 1) 1 = true
          · refine own_st (g1 := (mkF m 65 #[.val (.ref a), .val (.int (Int32.ofNat n))] [(.int (Int32.ofNat n))])) (fun zt zk => XS.iloadN X2x.here hx rfl (hb hby d2_64) rfl zk) ?_
            refine own_st (g1 := (mkF m 66 #[.val (.ref a), .val (.int (Int32.ofNat n))] [(.int (1 : Int32)), (.int (Int32.ofNat n))])) (fun zt zk => XS.iconst X2x.here hx rfl (hb hby d2_65) zk) ?_
            refine own_st (g1 := (mkF m 69 #[.val (.ref a), .val (.int (Int32.ofNat n))] [])) (fun zt zk => XS.icmpNo X2x.here hx rfl (hb hby d2_66) rfl (tlt ((own_lt (i := 1) (j := n) (by omega) (by omega)).mpr g1.1)).2.2.2 zk) ?_
            refine own_st (g1 := (mkF m 70 #[.val (.ref a), .val (.int (Int32.ofNat n))] [(.ref a)])) (fun zt zk => XS.aloadN X2x.here hx rfl (hb hby d2_69) rfl rfl zk) ?_
            refine own_st (g1 := (mkF m 71 #[.val (.ref a), .val (.int (Int32.ofNat n))] [(.int (Int32.ofNat n)), (.ref a)])) (fun zt zk => XS.iloadN X2x.here hx rfl (hb hby d2_70) rfl zk) ?_
            refine own_st (g1 := (mkF m 72 #[.val (.ref a), .val (.int (Int32.ofNat n))] [(.int (1 : Int32)), (.int (Int32.ofNat n)), (.ref a)])) (fun zt zk => XS.iconst X2x.here hx rfl (hb hby d2_71) zk) ?_
            obtain ⟨_, _, ⟨T9, L9, k9, n9⟩, -, X9, ⟨Lc9, hQ9, l9, y9, z9⟩, st9⟩ := Jvm.LawKit.callS X2x hx (y := (⟨"com/example/shiftwise/shiftwise/PrefixTableOverlapPinLaw", "isBorder", "([CII)Z"⟩ : MethodName)) hown (mvT hZ (hw _ (List.mem_of_getElem? (i := 28) rfl))) (mvT hZ (hw _ (List.mem_of_getElem? (i := 29) rfl))) (mvT hZ (hw _ (List.mem_of_getElem? (i := 3) rfl))) (mvT hZ (hw _ (List.mem_of_getElem? (i := 30) rfl))) (by decide) (backOf (W := 0) (rm6 l Z a0 hw [] a n 1 F h0 n0 (by decide) (by decide) g1.1 hn6 V) hZ (hw _ (List.mem_of_getElem? (i := 30) rfl)) (hw _ (List.mem_of_getElem? (i := 3) rfl)) (by decide) (by decide)) (g := (mkF m 72 #[.val (.ref a), .val (.int (Int32.ofNat n))] [(.int (1 : Int32)), (.int (Int32.ofNat n)), (.ref a)])) rfl (by rw [hml]; rfl) (argsL := [(.ref a), (.int (Int32.ofNat n)), (.int (1 : Int32))]) (rest := []) (lenOf pd_0 rfl) rfl (by show 2 * 0 + _ ≤ _; exact Nat.le_of_eq rfl) (hb hby d2_72) (fun _ _ => ⟨rfl, e2x, (by decide : 0 + 0 ≤ _), (by decide : 0 + 0 ≤ _)⟩)
            dsimp only [Pt.U, Pt.locs, Pt.cells, Pt.slots] at X9 l9 y9 z9 st9 hQ9
            replace X9 := own_stand X9 l9 y9 z9
            clear l9 y9 z9
            obtain ⟨rfl, N9, hh9⟩ := hQ9
            refine own_st (g1 := (mkF m 75 #[.val (.ref a), .val (.int (Int32.ofNat n))] [(.int (own_01 (own_isb (own_E F) (n - 1) 1)))])) (st9) ?_
            have eh9 : T9.heap = h0 := hh9
            rw [g1.2]
            refine own_st (g1 := (mkF m 78 #[.val (.ref a), .val (.int (Int32.ofNat n))] [])) (fun zt zk => XS.ifNo X9.here hx rfl (hb hby d2_75) rfl ((if0 _ _).trans (feq (by decide)).1) zk) ?_
            refine own_st (g1 := (mkF m 79 #[.val (.ref a), .val (.int (Int32.ofNat n))] [(.int (1 : Int32))])) (fun zt zk => XS.iconst X9.here hx rfl (hb hby d2_78) zk) ?_
            have hv : own_lb (own_E F) n = 1 := by unfold own_lb; rw [if_neg g5, if_neg g4, if_neg g3, if_neg g2, if_pos g1]
            exact own_here X9 ⟨79, _, _, rfl, (hb hby d2_79), rfl, (by decide), (by decide), (by rw [eh9]; exact ⟨by rw [hv]; rfl, Fr.app N2x N9, rfl⟩)⟩
          · have hA1 : Goes p l e ({ frames := 1, cells := 0, slots := 0, locals := 14 } : Room) s m #[(.ref a), (.int (Int32.ofNat n))] below meth c T2x (mkF m 64 #[.val (.ref a), .val (.int (Int32.ofNat n))] []) (fun T' L' k' n' g' => T'.heap = h0 ∧ Fr n0 L' ∧ k' = 0 ∧ n' = 0 ∧ g' = (mkF m 80 #[.val (.ref a), .val (.int (Int32.ofNat n))] [])) := by
              refine own_st (g1 := (mkF m 65 #[.val (.ref a), .val (.int (Int32.ofNat n))] [(.int (Int32.ofNat n))])) (fun zt zk => XS.iloadN X2x.here hx rfl (hb hby d2_64) rfl zk) ?_
              refine own_st (g1 := (mkF m 66 #[.val (.ref a), .val (.int (Int32.ofNat n))] [(.int (1 : Int32)), (.int (Int32.ofNat n))])) (fun zt zk => XS.iconst X2x.here hx rfl (hb hby d2_65) zk) ?_
              by_cases q1 : 1 < n
              · refine own_st (g1 := (mkF m 69 #[.val (.ref a), .val (.int (Int32.ofNat n))] [])) (fun zt zk => XS.icmpNo X2x.here hx rfl (hb hby d2_66) rfl (tlt ((own_lt (i := 1) (j := n) (by omega) (by omega)).mpr q1)).2.2.2 zk) ?_
                refine own_st (g1 := (mkF m 70 #[.val (.ref a), .val (.int (Int32.ofNat n))] [(.ref a)])) (fun zt zk => XS.aloadN X2x.here hx rfl (hb hby d2_69) rfl rfl zk) ?_
                refine own_st (g1 := (mkF m 71 #[.val (.ref a), .val (.int (Int32.ofNat n))] [(.int (Int32.ofNat n)), (.ref a)])) (fun zt zk => XS.iloadN X2x.here hx rfl (hb hby d2_70) rfl zk) ?_
                refine own_st (g1 := (mkF m 72 #[.val (.ref a), .val (.int (Int32.ofNat n))] [(.int (1 : Int32)), (.int (Int32.ofNat n)), (.ref a)])) (fun zt zk => XS.iconst X2x.here hx rfl (hb hby d2_71) zk) ?_
                obtain ⟨_, _, ⟨T10, L10, k10, n10⟩, -, X10, ⟨Lc10, hQ10, l10, y10, z10⟩, st10⟩ := Jvm.LawKit.callS X2x hx (y := (⟨"com/example/shiftwise/shiftwise/PrefixTableOverlapPinLaw", "isBorder", "([CII)Z"⟩ : MethodName)) hown (mvT hZ (hw _ (List.mem_of_getElem? (i := 28) rfl))) (mvT hZ (hw _ (List.mem_of_getElem? (i := 29) rfl))) (mvT hZ (hw _ (List.mem_of_getElem? (i := 3) rfl))) (mvT hZ (hw _ (List.mem_of_getElem? (i := 30) rfl))) (by decide) (backOf (W := 0) (rm6 l Z a0 hw [] a n 1 F h0 n0 (by decide) (by decide) q1 hn6 V) hZ (hw _ (List.mem_of_getElem? (i := 30) rfl)) (hw _ (List.mem_of_getElem? (i := 3) rfl)) (by decide) (by decide)) (g := (mkF m 72 #[.val (.ref a), .val (.int (Int32.ofNat n))] [(.int (1 : Int32)), (.int (Int32.ofNat n)), (.ref a)])) rfl (by rw [hml]; rfl) (argsL := [(.ref a), (.int (Int32.ofNat n)), (.int (1 : Int32))]) (rest := []) (lenOf pd_0 rfl) rfl (by show 2 * 0 + _ ≤ _; exact Nat.le_of_eq rfl) (hb hby d2_72) (fun _ _ => ⟨rfl, e2x, (by decide : 0 + 0 ≤ _), (by decide : 0 + 0 ≤ _)⟩)
                dsimp only [Pt.U, Pt.locs, Pt.cells, Pt.slots] at X10 l10 y10 z10 st10 hQ10
                replace X10 := own_stand X10 l10 y10 z10
                clear l10 y10 z10
                obtain ⟨rfl, N10, hh10⟩ := hQ10
                refine own_st (g1 := (mkF m 75 #[.val (.ref a), .val (.int (Int32.ofNat n))] [(.int (own_01 (own_isb (own_E F) (n - 1) 1)))])) (st10) ?_
                have q2 : own_isb (own_E F) (n - 1) 1 = false := by rw [← Bool.not_eq_true]; exact fun q => g1 ⟨q1, q⟩
                rw [q2]
                refine own_st (g1 := (mkF m 80 #[.val (.ref a), .val (.int (Int32.ofNat n))] [])) (fun zt zk => XS.ifYes X10.here hx rfl (pc0 := 75) (pc' := 80) rfl (hb hby d2_75) rfl ((if0 _ _).trans (teq (by decide)).1) (by decide) (by decide) zk) ?_
                exact own_here X10 ⟨hh10, Fr.app N2x N10, rfl, rfl, rfl⟩
              · refine own_st (g1 := (mkF m 80 #[.val (.ref a), .val (.int (Int32.ofNat n))] [])) (fun zt zk => XS.icmpYes X2x.here hx rfl (pc0 := 66) (pc' := 80) rfl (hb hby d2_66) rfl (flt (fun u => q1 ((own_lt (i := 1) (j := n) (by omega) (by omega)).mp u))).2.2.2 (by decide) (by decide) zk) ?_
                exact own_here X2x ⟨e2x, N2x, rfl, rfl, rfl⟩
            refine own_bind hA1 ?_
            rintro T1x L1x _ _ _ X1x ⟨e1x, N1x, rfl, rfl, rfl⟩
            refine own_st (g1 := (mkF m 81 #[.val (.ref a), .val (.int (Int32.ofNat n))] [(.int (0 : Int32))])) (fun zt zk => XS.iconst X1x.here hx rfl (hb hby d2_80) zk) ?_
            have hv : own_lb (own_E F) n = 0 := by unfold own_lb; rw [if_neg g5, if_neg g4, if_neg g3, if_neg g2, if_neg g1]
            exact own_here X1x ⟨81, _, _, rfl, (hb hby d2_81), rfl, (by decide), (by decide), (by rw [e1x]; exact ⟨by rw [hv]; rfl, N1x, rfl⟩)⟩
def PTa (Z : State) (h : Heap) (o a bb : Nat) (n : Nat) (F : Nat → Int32) (g : Nat → Nat) : Prop := Exa Z h o "com/example/shiftwise/shiftwise/PrefixTable" ∧ Fld Z h o "com/example/shiftwise/shiftwise/PrefixTable" "pattern" "[C" (.ref a) ∧ Fld Z h o "com/example/shiftwise/shiftwise/PrefixTable" "borders" "[I" (.ref bb) ∧ VA Z h a .char n (fun j => .int (F j)) ∧ VA Z h bb .int n (fun j => .int (Int32.ofNat (g j)))
theorem PTa.wr {Z : State} {h h' : Heap} {o a bb : Nat} {n i x : Nat} {F : Nat → Int32} {g : Nat → Nat} (H : PTa Z h o a bb n F g) (W : Wr h h' bb i (.int (Int32.ofNat x))) (q1 : o ≠ bb) (q2 : a ≠ bb) : PTa Z h' o a bb n F (upd g i x) := ⟨H.1.wr W, H.2.1.other W (Or.inl q1), H.2.2.1.other W (Or.inl q1), H.2.2.2.1.other W q2, H.2.2.2.2.setN W⟩
theorem d5_0 : decode prog_13_method_2_code 0 = .ok (.aload_n 0, 1) := by decide +kernel
theorem d5_1 : decode prog_13_method_2_code 1 = .ok (.getfield 13, 3) := by decide +kernel
theorem d5_4 : decode prog_13_method_2_code 4 = .ok (.aload_n 0, 1) := by decide +kernel
theorem d5_5 : decode prog_13_method_2_code 5 = .ok (.getfield 7, 3) := by decide +kernel
theorem d5_8 : decode prog_13_method_2_code 8 = .ok (.arraylength, 1) := by decide +kernel
theorem d5_9 : decode prog_13_method_2_code 9 = .ok (.iconst 1, 1) := by decide +kernel
theorem d5_10 : decode prog_13_method_2_code 10 = .ok (.isub, 1) := by decide +kernel
theorem d5_11 : decode prog_13_method_2_code 11 = .ok (.iaload, 1) := by decide +kernel
theorem d5_12 : decode prog_13_method_2_code 12 = .ok (.ireturn, 1) := by decide +kernel
theorem pn_5 : plainName "com/example/shiftwise/shiftwise/PrefixTable" = true := by first | (simp [plainName, overriddenIn]; done) | decide +kernel
theorem ef_5 (m : MethodId) (x0 : Nat) : entryFrame m #[(.ref x0)] 1 = mkF m 0 #[.val (.ref x0)] [] := by first | (simp [entryFrame, mkF, argsToLocals, Value.category]; done) | rfl
def Q5 (z : Nat) (h0 : Heap) (n0 : Nat) (v : Option Value) (h : Heap) (L : List Loc) : Prop := v = some (.int (Int32.ofNat z)) ∧ Fr n0 L ∧ h = h0
set_option maxRecDepth 65536 in
set_option maxHeartbeats 40000000 in
theorem rm5 (l : Launch) (Z : State) (a0 : Array Value) (hw : ∀ d ∈ tables_1, d.before a0 Z = true) (ws : List Jvm.Cond) (o a bb : Nat) (n : Nat) (F : Nat → Int32) (g : Nat → Nat) (h0 : Heap) (n0 : Nat) (h1 : 1 ≤ n) (h6 : n ≤ 6) (H : PTa Z h0 o a bb n F g) :
    Meets l Z (⟨"com/example/shiftwise/shiftwise/PrefixTable", "overlap", "()I"⟩ : MethodName) prog_13_method_2_code 1 (some .int) ws ({ frames := 0, cells := 0, slots := 0, locals := 0 } : Room) #[(.ref o)] h0 0 0 (Q5 (g (n - 1)) h0 n0) := by
  refine own_meets (plainFor_of_name pn_5) ?_
  intro p e s m below meth c s₁ hx hZ hby hml hown hnm hret hlk X0 e0
  have hown : s.vm.findClass "com/example/shiftwise/shiftwise/PrefixTable" = some m.cls := hown
  have hnm : meth.name = "overlap" := hnm
  refine own_finN (l := l) (R := ({ frames := 0, cells := 0, slots := 0, locals := 0 } : Room)) (m := m) (args := #[(.ref o)]) (c := c) (by simp) hx hret hlk ?_
  refine own_cast (ef_5 m o) ?_
  refine own_st (g1 := (mkF m 1 #[.val (.ref o)] [(.ref o)])) (fun zt zk => XS.aloadN X0.here hx rfl (hb hby d5_0) rfl rfl zk) ?_
  obtain ⟨T11, X11, e11, st11⟩ := getF X0 hx hZ hown (host := "") (Or.inl (hw _ (List.mem_of_getElem? (i := 21) rfl))) Via.refl e0 H.2.2.1 (g := (mkF m 1 #[.val (.ref o)] [(.ref o)])) rfl rfl (hb hby d5_1)
  refine own_st (g1 := (mkF m 4 #[.val (.ref o)] [(.ref bb)])) (st11) ?_
  refine own_st (g1 := (mkF m 5 #[.val (.ref o)] [(.ref o), (.ref bb)])) (fun zt zk => XS.aloadN X11.here hx rfl (hb hby d5_4) rfl rfl zk) ?_
  obtain ⟨T12, X12, e12, st12⟩ := getF X11 hx hZ hown (host := "") (Or.inl (hw _ (List.mem_of_getElem? (i := 18) rfl))) Via.refl e11 H.2.1 (g := (mkF m 5 #[.val (.ref o)] [(.ref o), (.ref bb)])) rfl rfl (hb hby d5_5)
  refine own_st (g1 := (mkF m 8 #[.val (.ref o)] [(.ref a), (.ref bb)])) (st12) ?_
  refine own_st (g1 := (mkF m 9 #[.val (.ref o)] [(.int (Int32.ofNat n)), (.ref bb)])) (own_len X12 hx hZ e12 H.2.2.2.1 (N := (Int32.ofNat n)) rfl (g := (mkF m 8 #[.val (.ref o)] [(.ref a), (.ref bb)])) rfl rfl (hb hby d5_8)) ?_
  refine own_st (g1 := (mkF m 10 #[.val (.ref o)] [(.int (1 : Int32)), (.int (Int32.ofNat n)), (.ref bb)])) (fun zt zk => XS.iconst X12.here hx rfl (hb hby d5_9) zk) ?_
  refine own_st (g1 := (mkF m 11 #[.val (.ref o)] [(.int ((Int32.ofNat n) - (1 : Int32))), (.ref bb)])) (fun zt zk => XS.isub X12.here hx rfl (hb hby d5_10) rfl zk) ?_
  refine own_st (g1 := (mkF m 12 #[.val (.ref o)] [(.int (Int32.ofNat (g (n - 1))))])) (own_ild X12 hx hZ e12 H.2.2.2.2 (j := (n - 1)) (v := (.int (Int32.ofNat (g (n - 1))))) (own_prev h1) (by omega) (by omega) rfl (g := (mkF m 11 #[.val (.ref o)] [(.int ((Int32.ofNat n) - (1 : Int32))), (.ref bb)])) rfl rfl (hb hby d5_11)) ?_
  exact own_here X12 ⟨12, _, _, rfl, (hb hby d5_12), rfl, (by decide), (by decide), (by rw [e12]; exact ⟨rfl, Fr.nil n0, rfl⟩)⟩
theorem d3_0 : decode prog_13_method_1_code 0 = .ok (.aload_n 0, 1) := by decide +kernel
theorem d3_1 : decode prog_13_method_1_code 1 = .ok (.invokespecial 1, 3) := by decide +kernel
theorem d3_4 : decode prog_13_method_1_code 4 = .ok (.aload_n 0, 1) := by decide +kernel
theorem d3_5 : decode prog_13_method_1_code 5 = .ok (.aload_n 1, 1) := by decide +kernel
theorem d3_6 : decode prog_13_method_1_code 6 = .ok (.putfield 7, 3) := by decide +kernel
theorem d3_9 : decode prog_13_method_1_code 9 = .ok (.aload_n 0, 1) := by decide +kernel
theorem d3_10 : decode prog_13_method_1_code 10 = .ok (.aload_n 1, 1) := by decide +kernel
theorem d3_11 : decode prog_13_method_1_code 11 = .ok (.arraylength, 1) := by decide +kernel
theorem d3_12 : decode prog_13_method_1_code 12 = .ok (.newarray .int, 2) := by decide +kernel
theorem d3_14 : decode prog_13_method_1_code 14 = .ok (.putfield 13, 3) := by decide +kernel
theorem d3_17 : decode prog_13_method_1_code 17 = .ok (.iconst 0, 1) := by decide +kernel
theorem d3_18 : decode prog_13_method_1_code 18 = .ok (.istore_n 2, 1) := by decide +kernel
theorem d3_19 : decode prog_13_method_1_code 19 = .ok (.iconst 1, 1) := by decide +kernel
theorem d3_20 : decode prog_13_method_1_code 20 = .ok (.istore_n 3, 1) := by decide +kernel
theorem d3_21 : decode prog_13_method_1_code 21 = .ok (.iload_n 3, 1) := by decide +kernel
theorem d3_22 : decode prog_13_method_1_code 22 = .ok (.aload_n 1, 1) := by decide +kernel
theorem d3_23 : decode prog_13_method_1_code 23 = .ok (.arraylength, 1) := by decide +kernel
theorem d3_24 : decode prog_13_method_1_code 24 = .ok (.if_icmp .ge 53, 3) := by decide +kernel
theorem d3_27 : decode prog_13_method_1_code 27 = .ok (.iload_n 2, 1) := by decide +kernel
theorem d3_28 : decode prog_13_method_1_code 28 = .ok (.ifCond .le 24, 3) := by decide +kernel
theorem d3_31 : decode prog_13_method_1_code 31 = .ok (.aload_n 1, 1) := by decide +kernel
theorem d3_32 : decode prog_13_method_1_code 32 = .ok (.iload_n 3, 1) := by decide +kernel
theorem d3_33 : decode prog_13_method_1_code 33 = .ok (.caload, 1) := by decide +kernel
theorem d3_34 : decode prog_13_method_1_code 34 = .ok (.aload_n 1, 1) := by decide +kernel
theorem d3_35 : decode prog_13_method_1_code 35 = .ok (.iload_n 2, 1) := by decide +kernel
theorem d3_36 : decode prog_13_method_1_code 36 = .ok (.caload, 1) := by decide +kernel
theorem d3_37 : decode prog_13_method_1_code 37 = .ok (.if_icmp .eq 15, 3) := by decide +kernel
theorem d3_40 : decode prog_13_method_1_code 40 = .ok (.aload_n 0, 1) := by decide +kernel
theorem d3_41 : decode prog_13_method_1_code 41 = .ok (.getfield 13, 3) := by decide +kernel
theorem d3_44 : decode prog_13_method_1_code 44 = .ok (.iload_n 2, 1) := by decide +kernel
theorem d3_45 : decode prog_13_method_1_code 45 = .ok (.iconst 1, 1) := by decide +kernel
theorem d3_46 : decode prog_13_method_1_code 46 = .ok (.isub, 1) := by decide +kernel
theorem d3_47 : decode prog_13_method_1_code 47 = .ok (.iaload, 1) := by decide +kernel
theorem d3_48 : decode prog_13_method_1_code 48 = .ok (.istore_n 2, 1) := by decide +kernel
theorem d3_49 : decode prog_13_method_1_code 49 = .ok (.goto (-22), 3) := by decide +kernel
theorem d3_52 : decode prog_13_method_1_code 52 = .ok (.aload_n 1, 1) := by decide +kernel
theorem d3_53 : decode prog_13_method_1_code 53 = .ok (.iload_n 3, 1) := by decide +kernel
theorem d3_54 : decode prog_13_method_1_code 54 = .ok (.caload, 1) := by decide +kernel
theorem d3_55 : decode prog_13_method_1_code 55 = .ok (.aload_n 1, 1) := by decide +kernel
theorem d3_56 : decode prog_13_method_1_code 56 = .ok (.iload_n 2, 1) := by decide +kernel
theorem d3_57 : decode prog_13_method_1_code 57 = .ok (.caload, 1) := by decide +kernel
theorem d3_58 : decode prog_13_method_1_code 58 = .ok (.if_icmp .ne 6, 3) := by decide +kernel
theorem d3_61 : decode prog_13_method_1_code 61 = .ok (.iinc 2 1, 3) := by decide +kernel
theorem d3_64 : decode prog_13_method_1_code 64 = .ok (.aload_n 0, 1) := by decide +kernel
theorem d3_65 : decode prog_13_method_1_code 65 = .ok (.getfield 13, 3) := by decide +kernel
theorem d3_68 : decode prog_13_method_1_code 68 = .ok (.iload_n 3, 1) := by decide +kernel
theorem d3_69 : decode prog_13_method_1_code 69 = .ok (.iload_n 2, 1) := by decide +kernel
theorem d3_70 : decode prog_13_method_1_code 70 = .ok (.iastore, 1) := by decide +kernel
theorem d3_71 : decode prog_13_method_1_code 71 = .ok (.iinc 3 1, 3) := by decide +kernel
theorem d3_74 : decode prog_13_method_1_code 74 = .ok (.goto (-53), 3) := by decide +kernel
theorem d3_77 : decode prog_13_method_1_code 77 = .ok (.return_, 1) := by decide +kernel
theorem pn_3 : plainName "com/example/shiftwise/shiftwise/PrefixTable" = true := by first | (simp [plainName, overriddenIn]; done) | decide +kernel
theorem ef_3 (m : MethodId) (x0 : Nat) (x1 : Nat) : entryFrame m #[(.ref x0), (.ref x1)] 4 = mkF m 0 #[.val (.ref x0), .val (.ref x1), .unset, .unset] [] := by first | (simp [entryFrame, mkF, argsToLocals, Value.category]; done) | rfl
set_option maxRecDepth 65536 in
set_option maxHeartbeats 40000000 in
theorem loopI3 {p : Program} {l : Launch} {e : Env} {R : Room} {s : State} {m : MethodId} {args : Array Value} {below : List Frame} {meth : Method} {c : Code} {Z : State} {a0 : Array Value} (hx : p.tables.exec = Jvm.exec) (hZ : Z.Warmed39 s.vm) (hw : ∀ d ∈ tables_1, d.before a0 Z = true) (hby : c.code = prog_13_method_1_code) (hml : c.maxLocals = 4) (hown : s.vm.findClass "com/example/shiftwise/shiftwise/PrefixTable" = some m.cls) (hnm : meth.name = "<init>") (o a bb : Nat) (n i : Nat) (F : Nat → Int32) (g : Nat → Nat) (h : Heap) (hn6 : n ≤ 6) (hin : i < n) (hg : ∀ j, g j ≤ j) (H : PTa Z h o a bb n F g) {L0 : List Loc} {cells slots : Nat} :
    ∀ (fu k : Nat) (T0 : State), k ≤ fu → k < n → Stand p l e R s m args below meth c T0 L0 cells slots → T0.heap = h →
      Goes p l e R s m args below meth c T0 (mkF m 27 #[.val (.ref o), .val (.ref a), .val (.int (Int32.ofNat k)), .val (.int (Int32.ofNat i))] []) (fun T' L' k' n' g' => k' = cells ∧ n' = slots ∧ L' = L0 ∧ T'.heap = h ∧ g' = (mkF m 52 #[.val (.ref o), .val (.ref a), .val (.int (Int32.ofNat (own_fall (own_E F) g i fu k))), .val (.int (Int32.ofNat i))] [])) := by
  intro fu
  induction fu with
  | zero =>
    intro k T0 hk hkn X e0
    have hk0 : k = 0 := by omega
    subst hk0
    refine own_st (g1 := (mkF m 28 #[.val (.ref o), .val (.ref a), .val (.int (Int32.ofNat 0)), .val (.int (Int32.ofNat i))] [(.int (Int32.ofNat 0))])) (fun zt zk => XS.iloadN X.here hx rfl (hb hby d3_27) rfl zk) ?_
    refine own_st (g1 := (mkF m 52 #[.val (.ref o), .val (.ref a), .val (.int (Int32.ofNat 0)), .val (.int (Int32.ofNat i))] [])) (fun zt zk => XS.ifYes X.here hx rfl (pc0 := 28) (pc' := 52) rfl (hb hby d3_28) rfl ((if0 _ _).trans (flt (by decide)).2.2.2) (by decide) (by decide) zk) ?_
    exact own_here X ⟨rfl, rfl, rfl, e0, rfl⟩
  | succ fu ih =>
    intro k T0 hk hkn X e0
    refine own_st (g1 := (mkF m 28 #[.val (.ref o), .val (.ref a), .val (.int (Int32.ofNat k)), .val (.int (Int32.ofNat i))] [(.int (Int32.ofNat k))])) (fun zt zk => XS.iloadN X.here hx rfl (hb hby d3_27) rfl zk) ?_
    by_cases hp : 0 < k
    · refine own_st (g1 := (mkF m 31 #[.val (.ref o), .val (.ref a), .val (.int (Int32.ofNat k)), .val (.int (Int32.ofNat i))] [])) (fun zt zk => XS.ifNo X.here hx rfl (hb hby d3_28) rfl ((if0 _ _).trans (tlt ((own_lt (i := 0) (j := k) (by omega) (by omega)).mpr hp)).2.2.2) zk) ?_
      refine own_st (g1 := (mkF m 32 #[.val (.ref o), .val (.ref a), .val (.int (Int32.ofNat k)), .val (.int (Int32.ofNat i))] [(.ref a)])) (fun zt zk => XS.aloadN X.here hx rfl (hb hby d3_31) rfl rfl zk) ?_
      refine own_st (g1 := (mkF m 33 #[.val (.ref o), .val (.ref a), .val (.int (Int32.ofNat k)), .val (.int (Int32.ofNat i))] [(.int (Int32.ofNat i)), (.ref a)])) (fun zt zk => XS.iloadN X.here hx rfl (hb hby d3_32) rfl zk) ?_
      refine own_st (g1 := (mkF m 34 #[.val (.ref o), .val (.ref a), .val (.int (Int32.ofNat k)), .val (.int (Int32.ofNat i))] [(.int (F i))])) (own_cld X hx hZ e0 H.2.2.2.1 (j := i) (v := (.int (F i))) rfl (by omega) (by omega) rfl (g := (mkF m 33 #[.val (.ref o), .val (.ref a), .val (.int (Int32.ofNat k)), .val (.int (Int32.ofNat i))] [(.int (Int32.ofNat i)), (.ref a)])) rfl rfl (hb hby d3_33)) ?_
      refine own_st (g1 := (mkF m 35 #[.val (.ref o), .val (.ref a), .val (.int (Int32.ofNat k)), .val (.int (Int32.ofNat i))] [(.ref a), (.int (F i))])) (fun zt zk => XS.aloadN X.here hx rfl (hb hby d3_34) rfl rfl zk) ?_
      refine own_st (g1 := (mkF m 36 #[.val (.ref o), .val (.ref a), .val (.int (Int32.ofNat k)), .val (.int (Int32.ofNat i))] [(.int (Int32.ofNat k)), (.ref a), (.int (F i))])) (fun zt zk => XS.iloadN X.here hx rfl (hb hby d3_35) rfl zk) ?_
      refine own_st (g1 := (mkF m 37 #[.val (.ref o), .val (.ref a), .val (.int (Int32.ofNat k)), .val (.int (Int32.ofNat i))] [(.int (F k)), (.int (F i))])) (own_cld X hx hZ e0 H.2.2.2.1 (j := k) (v := (.int (F k))) rfl (by omega) (by omega) rfl (g := (mkF m 36 #[.val (.ref o), .val (.ref a), .val (.int (Int32.ofNat k)), .val (.int (Int32.ofNat i))] [(.int (Int32.ofNat k)), (.ref a), (.int (F i))])) rfl rfl (hb hby d3_36)) ?_
      by_cases he : (F i) = (F k)
      · refine own_st (g1 := (mkF m 52 #[.val (.ref o), .val (.ref a), .val (.int (Int32.ofNat k)), .val (.int (Int32.ofNat i))] [])) (fun zt zk => XS.icmpYes X.here hx rfl (pc0 := 37) (pc' := 52) rfl (hb hby d3_37) rfl (teq he).1 (by decide) (by decide) zk) ?_
        exact own_here X ⟨rfl, rfl, rfl, e0, by rw [own_fall_stop (E := own_E F) (g := g) (i := i) (fu := fu) (k := k) (fun q => by rw [show own_E F i k = true from decide_eq_true he] at q; exact absurd q.2 (by decide))]⟩
      · refine own_st (g1 := (mkF m 40 #[.val (.ref o), .val (.ref a), .val (.int (Int32.ofNat k)), .val (.int (Int32.ofNat i))] [])) (fun zt zk => XS.icmpNo X.here hx rfl (hb hby d3_37) rfl (feq he).1 zk) ?_
        refine own_st (g1 := (mkF m 41 #[.val (.ref o), .val (.ref a), .val (.int (Int32.ofNat k)), .val (.int (Int32.ofNat i))] [(.ref o)])) (fun zt zk => XS.aloadN X.here hx rfl (hb hby d3_40) rfl rfl zk) ?_
        obtain ⟨T13, X13, e13, st13⟩ := getF X hx hZ hown (host := "") (Or.inl (hw _ (List.mem_of_getElem? (i := 21) rfl))) Via.refl e0 H.2.2.1 (g := (mkF m 41 #[.val (.ref o), .val (.ref a), .val (.int (Int32.ofNat k)), .val (.int (Int32.ofNat i))] [(.ref o)])) rfl rfl (hb hby d3_41)
        refine own_st (g1 := (mkF m 44 #[.val (.ref o), .val (.ref a), .val (.int (Int32.ofNat k)), .val (.int (Int32.ofNat i))] [(.ref bb)])) (st13) ?_
        refine own_st (g1 := (mkF m 45 #[.val (.ref o), .val (.ref a), .val (.int (Int32.ofNat k)), .val (.int (Int32.ofNat i))] [(.int (Int32.ofNat k)), (.ref bb)])) (fun zt zk => XS.iloadN X13.here hx rfl (hb hby d3_44) rfl zk) ?_
        refine own_st (g1 := (mkF m 46 #[.val (.ref o), .val (.ref a), .val (.int (Int32.ofNat k)), .val (.int (Int32.ofNat i))] [(.int (1 : Int32)), (.int (Int32.ofNat k)), (.ref bb)])) (fun zt zk => XS.iconst X13.here hx rfl (hb hby d3_45) zk) ?_
        refine own_st (g1 := (mkF m 47 #[.val (.ref o), .val (.ref a), .val (.int (Int32.ofNat k)), .val (.int (Int32.ofNat i))] [(.int ((Int32.ofNat k) - (1 : Int32))), (.ref bb)])) (fun zt zk => XS.isub X13.here hx rfl (hb hby d3_46) rfl zk) ?_
        refine own_st (g1 := (mkF m 48 #[.val (.ref o), .val (.ref a), .val (.int (Int32.ofNat k)), .val (.int (Int32.ofNat i))] [(.int (Int32.ofNat (g (k - 1))))])) (own_ild X13 hx hZ e13 H.2.2.2.2 (j := (k - 1)) (v := (.int (Int32.ofNat (g (k - 1))))) (own_prev hp) (by omega) (by omega) rfl (g := (mkF m 47 #[.val (.ref o), .val (.ref a), .val (.int (Int32.ofNat k)), .val (.int (Int32.ofNat i))] [(.int ((Int32.ofNat k) - (1 : Int32))), (.ref bb)])) rfl rfl (hb hby d3_47)) ?_
        refine own_st (g1 := (mkF m 49 #[.val (.ref o), .val (.ref a), .val (.int (Int32.ofNat (g (k - 1)))), .val (.int (Int32.ofNat i))] [])) (fun zt zk => XS.istoreN X13.here hx rfl (hb hby d3_48) rfl (l' := #[.val (.ref o), .val (.ref a), .val (.int (Int32.ofNat (g (k - 1)))), .val (.int (Int32.ofNat i))]) rfl zk) ?_
        refine own_st (g1 := (mkF m 27 #[.val (.ref o), .val (.ref a), .val (.int (Int32.ofNat (g (k - 1)))), .val (.int (Int32.ofNat i))] [])) (fun zt zk => XS.goto X13.here hx rfl (pc0 := 49) (pc' := 27) rfl (hb hby d3_49) (by decide) (by decide) zk) ?_
        have hgk := hg (k - 1)
        rw [own_fall_go (E := own_E F) hp (decide_eq_false he)]
        exact ih (g (k - 1)) T13 (by omega) (by omega) X13 e13
    · refine own_st (g1 := (mkF m 52 #[.val (.ref o), .val (.ref a), .val (.int (Int32.ofNat k)), .val (.int (Int32.ofNat i))] [])) (fun zt zk => XS.ifYes X.here hx rfl (pc0 := 28) (pc' := 52) rfl (hb hby d3_28) rfl ((if0 _ _).trans (flt (fun u => hp ((own_lt (i := 0) (j := k) (by omega) (by omega)).mp u))).2.2.2) (by decide) (by decide) zk) ?_
      exact own_here X ⟨rfl, rfl, rfl, e0, by rw [own_fall_stop (E := own_E F) (g := g) (i := i) (fu := fu) (fun q => hp q.1)]⟩
set_option maxRecDepth 65536 in
set_option maxHeartbeats 40000000 in
theorem loopO3 {p : Program} {l : Launch} {e : Env} {R : Room} {s : State} {m : MethodId} {args : Array Value} {below : List Frame} {meth : Method} {c : Code} {Z : State} {a0 : Array Value} (hx : p.tables.exec = Jvm.exec) (hZ : Z.Warmed39 s.vm) (hw : ∀ d ∈ tables_1, d.before a0 Z = true) (hby : c.code = prog_13_method_1_code) (hml : c.maxLocals = 4) (hown : s.vm.findClass "com/example/shiftwise/shiftwise/PrefixTable" = some m.cls) (hnm : meth.name = "<init>") (o a bb : Nat) (n : Nat) (F : Nat → Int32) (n0 : Nat) (h0 : Heap) (hn6 : n ≤ 6) (gb : n0 ≤ bb) (hb0 : h0.size ≤ bb) (q1 : o ≠ bb) (q2 : a ≠ bb) {cells slots : Nat} :
    ∀ (u i k : Nat) (g : Nat → Nat) (T0 : State) (L0 : List Loc) (h : Heap), i + u = n → k < i → (∀ j, g j ≤ j) → Stand p l e R s m args below meth c T0 L0 cells slots → T0.heap = h → Fr n0 L0 → Keep h0 h [o] → PTa Z h o a bb n F g →
      Goes p l e R s m args below meth c T0 (mkF m 21 #[.val (.ref o), .val (.ref a), .val (.int (Int32.ofNat k)), .val (.int (Int32.ofNat i))] []) (fun T' L' k' n' g' => k' = cells ∧ n' = slots ∧ (∃ z : Int32, g' = (mkF m 77 #[.val (.ref o), .val (.ref a), .val (.int z), .val (.int (Int32.ofNat n))] [])) ∧ Fr n0 L' ∧ Keep h0 T'.heap [o] ∧ PTa Z T'.heap o a bb n F (own_kmp (own_E F) u i k g)) := by
  intro u
  induction u with
  | zero =>
    intro i k g T0 L0 h hiu hki hg X e0 N K H
    have hin : i = n := by omega
    subst hin
    refine own_st (g1 := (mkF m 22 #[.val (.ref o), .val (.ref a), .val (.int (Int32.ofNat k)), .val (.int (Int32.ofNat i))] [(.int (Int32.ofNat i))])) (fun zt zk => XS.iloadN X.here hx rfl (hb hby d3_21) rfl zk) ?_
    refine own_st (g1 := (mkF m 23 #[.val (.ref o), .val (.ref a), .val (.int (Int32.ofNat k)), .val (.int (Int32.ofNat i))] [(.ref a), (.int (Int32.ofNat i))])) (fun zt zk => XS.aloadN X.here hx rfl (hb hby d3_22) rfl rfl zk) ?_
    refine own_st (g1 := (mkF m 24 #[.val (.ref o), .val (.ref a), .val (.int (Int32.ofNat k)), .val (.int (Int32.ofNat i))] [(.int (Int32.ofNat i)), (.int (Int32.ofNat i))])) (own_len X hx hZ e0 H.2.2.2.1 (N := (Int32.ofNat i)) rfl (g := (mkF m 23 #[.val (.ref o), .val (.ref a), .val (.int (Int32.ofNat k)), .val (.int (Int32.ofNat i))] [(.ref a), (.int (Int32.ofNat i))])) rfl rfl (hb hby d3_23)) ?_
    refine own_st (g1 := (mkF m 77 #[.val (.ref o), .val (.ref a), .val (.int (Int32.ofNat k)), .val (.int (Int32.ofNat i))] [])) (fun zt zk => XS.icmpYes X.here hx rfl (pc0 := 24) (pc' := 77) rfl (hb hby d3_24) rfl (flt Int32.lt_irrefl).2.1 (by decide) (by decide) zk) ?_
    exact own_here X ⟨rfl, rfl, ⟨_, rfl⟩, N, by rw [e0]; exact K, by rw [e0]; exact H⟩
  | succ u ih =>
    intro i k g T0 L0 h hiu hki hg X e0 N K H
    refine own_st (g1 := (mkF m 22 #[.val (.ref o), .val (.ref a), .val (.int (Int32.ofNat k)), .val (.int (Int32.ofNat i))] [(.int (Int32.ofNat i))])) (fun zt zk => XS.iloadN X.here hx rfl (hb hby d3_21) rfl zk) ?_
    refine own_st (g1 := (mkF m 23 #[.val (.ref o), .val (.ref a), .val (.int (Int32.ofNat k)), .val (.int (Int32.ofNat i))] [(.ref a), (.int (Int32.ofNat i))])) (fun zt zk => XS.aloadN X.here hx rfl (hb hby d3_22) rfl rfl zk) ?_
    refine own_st (g1 := (mkF m 24 #[.val (.ref o), .val (.ref a), .val (.int (Int32.ofNat k)), .val (.int (Int32.ofNat i))] [(.int (Int32.ofNat n)), (.int (Int32.ofNat i))])) (own_len X hx hZ e0 H.2.2.2.1 (N := (Int32.ofNat n)) rfl (g := (mkF m 23 #[.val (.ref o), .val (.ref a), .val (.int (Int32.ofNat k)), .val (.int (Int32.ofNat i))] [(.ref a), (.int (Int32.ofNat i))])) rfl rfl (hb hby d3_23)) ?_
    refine own_st (g1 := (mkF m 27 #[.val (.ref o), .val (.ref a), .val (.int (Int32.ofNat k)), .val (.int (Int32.ofNat i))] [])) (fun zt zk => XS.icmpNo X.here hx rfl (hb hby d3_24) rfl (tlt ((own_lt (i := i) (j := n) (by omega) (by omega)).mpr (by omega))).2.1 zk) ?_
    refine own_bind (loopI3 hx hZ hw hby hml hown hnm o a bb n i F g h hn6 (by omega) hg H k k T0 (Nat.le_refl k) (by omega) X e0) ?_
    rintro T5 L5 cs5 ns5 _ X5 ⟨hk5, hn5, hL5, e5, rfl⟩
    subst hk5 hn5
    have N5 : Fr n0 L5 := by rw [hL5]; exact N
    have hfl := own_fall_le (E := own_E F) (i := i) hg k k
    have hB : Goes p l e R s m args below meth c T5 (mkF m 52 #[.val (.ref o), .val (.ref a), .val (.int (Int32.ofNat (own_fall (own_E F) g i k k))), .val (.int (Int32.ofNat i))] []) (fun T' L' k' n' g' => T' = T5 ∧ L' = L5 ∧ k' = cs5 ∧ n' = ns5 ∧ g' = (mkF m 64 #[.val (.ref o), .val (.ref a), .val (.int (Int32.ofNat (own_next (own_E F) g i k))), .val (.int (Int32.ofNat i))] [])) := by
      refine own_st (g1 := (mkF m 53 #[.val (.ref o), .val (.ref a), .val (.int (Int32.ofNat (own_fall (own_E F) g i k k))), .val (.int (Int32.ofNat i))] [(.ref a)])) (fun zt zk => XS.aloadN X5.here hx rfl (hb hby d3_52) rfl rfl zk) ?_
      refine own_st (g1 := (mkF m 54 #[.val (.ref o), .val (.ref a), .val (.int (Int32.ofNat (own_fall (own_E F) g i k k))), .val (.int (Int32.ofNat i))] [(.int (Int32.ofNat i)), (.ref a)])) (fun zt zk => XS.iloadN X5.here hx rfl (hb hby d3_53) rfl zk) ?_
      refine own_st (g1 := (mkF m 55 #[.val (.ref o), .val (.ref a), .val (.int (Int32.ofNat (own_fall (own_E F) g i k k))), .val (.int (Int32.ofNat i))] [(.int (F i))])) (own_cld X5 hx hZ e5 H.2.2.2.1 (j := i) (v := (.int (F i))) rfl (by omega) (by omega) rfl (g := (mkF m 54 #[.val (.ref o), .val (.ref a), .val (.int (Int32.ofNat (own_fall (own_E F) g i k k))), .val (.int (Int32.ofNat i))] [(.int (Int32.ofNat i)), (.ref a)])) rfl rfl (hb hby d3_54)) ?_
      refine own_st (g1 := (mkF m 56 #[.val (.ref o), .val (.ref a), .val (.int (Int32.ofNat (own_fall (own_E F) g i k k))), .val (.int (Int32.ofNat i))] [(.ref a), (.int (F i))])) (fun zt zk => XS.aloadN X5.here hx rfl (hb hby d3_55) rfl rfl zk) ?_
      refine own_st (g1 := (mkF m 57 #[.val (.ref o), .val (.ref a), .val (.int (Int32.ofNat (own_fall (own_E F) g i k k))), .val (.int (Int32.ofNat i))] [(.int (Int32.ofNat (own_fall (own_E F) g i k k))), (.ref a), (.int (F i))])) (fun zt zk => XS.iloadN X5.here hx rfl (hb hby d3_56) rfl zk) ?_
      refine own_st (g1 := (mkF m 58 #[.val (.ref o), .val (.ref a), .val (.int (Int32.ofNat (own_fall (own_E F) g i k k))), .val (.int (Int32.ofNat i))] [(.int (F (own_fall (own_E F) g i k k))), (.int (F i))])) (own_cld X5 hx hZ e5 H.2.2.2.1 (j := (own_fall (own_E F) g i k k)) (v := (.int (F (own_fall (own_E F) g i k k)))) rfl (by omega) (by omega) rfl (g := (mkF m 57 #[.val (.ref o), .val (.ref a), .val (.int (Int32.ofNat (own_fall (own_E F) g i k k))), .val (.int (Int32.ofNat i))] [(.int (Int32.ofNat (own_fall (own_E F) g i k k))), (.ref a), (.int (F i))])) rfl rfl (hb hby d3_57)) ?_
      by_cases he : (F i) = (F (own_fall (own_E F) g i k k))
      · refine own_st (g1 := (mkF m 61 #[.val (.ref o), .val (.ref a), .val (.int (Int32.ofNat (own_fall (own_E F) g i k k))), .val (.int (Int32.ofNat i))] [])) (fun zt zk => XS.icmpNo X5.here hx rfl (hb hby d3_58) rfl (teq he).2 zk) ?_
        refine own_st (g1 := (mkF m 64 #[.val (.ref o), .val (.ref a), .val (.int ((Int32.ofNat (own_fall (own_E F) g i k k)) + (1 : Int32))), .val (.int (Int32.ofNat i))] [])) (fun zt zk => XS.iinc X5.here hx rfl (hb hby d3_61) rfl (l' := #[.val (.ref o), .val (.ref a), .val (.int ((Int32.ofNat (own_fall (own_E F) g i k k)) + (1 : Int32))), .val (.int (Int32.ofNat i))]) rfl zk) ?_
        exact own_here X5 ⟨rfl, rfl, rfl, rfl, by rw [own_next_yes (decide_eq_true he), ← own_succ]⟩
      · refine own_st (g1 := (mkF m 64 #[.val (.ref o), .val (.ref a), .val (.int (Int32.ofNat (own_fall (own_E F) g i k k))), .val (.int (Int32.ofNat i))] [])) (fun zt zk => XS.icmpYes X5.here hx rfl (pc0 := 58) (pc' := 64) rfl (hb hby d3_58) rfl (feq he).2 (by decide) (by decide) zk) ?_
        exact own_here X5 ⟨rfl, rfl, rfl, rfl, by rw [own_next_no (fun q => he (of_decide_eq_true q))]⟩
    refine own_bind hB ?_
    rintro T6 L6 cs6 ns6 _ X6 ⟨hT6, hL6, hk6, hn6b, rfl⟩
    subst hk6 hn6b
    have e6 : T6.heap = h := by rw [hT6]; exact e5
    have N6 : Fr n0 L6 := by rw [hL6]; exact N5
    have hnx := own_next_le (E := own_E F) (i := i) (k := k) hg
    refine own_st (g1 := (mkF m 65 #[.val (.ref o), .val (.ref a), .val (.int (Int32.ofNat (own_next (own_E F) g i k))), .val (.int (Int32.ofNat i))] [(.ref o)])) (fun zt zk => XS.aloadN X6.here hx rfl (hb hby d3_64) rfl rfl zk) ?_
    obtain ⟨T14, X14, e14, st14⟩ := getF X6 hx hZ hown (host := "") (Or.inl (hw _ (List.mem_of_getElem? (i := 21) rfl))) Via.refl e6 H.2.2.1 (g := (mkF m 65 #[.val (.ref o), .val (.ref a), .val (.int (Int32.ofNat (own_next (own_E F) g i k))), .val (.int (Int32.ofNat i))] [(.ref o)])) rfl rfl (hb hby d3_65)
    refine own_st (g1 := (mkF m 68 #[.val (.ref o), .val (.ref a), .val (.int (Int32.ofNat (own_next (own_E F) g i k))), .val (.int (Int32.ofNat i))] [(.ref bb)])) (st14) ?_
    refine own_st (g1 := (mkF m 69 #[.val (.ref o), .val (.ref a), .val (.int (Int32.ofNat (own_next (own_E F) g i k))), .val (.int (Int32.ofNat i))] [(.int (Int32.ofNat i)), (.ref bb)])) (fun zt zk => XS.iloadN X14.here hx rfl (hb hby d3_68) rfl zk) ?_
    refine own_st (g1 := (mkF m 70 #[.val (.ref o), .val (.ref a), .val (.int (Int32.ofNat (own_next (own_E F) g i k))), .val (.int (Int32.ofNat i))] [(.int (Int32.ofNat (own_next (own_E F) g i k))), (.int (Int32.ofNat i)), (.ref bb)])) (fun zt zk => XS.iloadN X14.here hx rfl (hb hby d3_69) rfl zk) ?_
    obtain ⟨T15, h15, X15, e15, W15, st15⟩ := own_ist X14 hx hZ e14 H.2.2.2.2 (j := i) rfl (by omega) (by omega) (g := (mkF m 70 #[.val (.ref o), .val (.ref a), .val (.int (Int32.ofNat (own_next (own_E F) g i k))), .val (.int (Int32.ofNat i))] [(.int (Int32.ofNat (own_next (own_E F) g i k))), (.int (Int32.ofNat i)), (.ref bb)])) rfl rfl (hb hby d3_70)
    refine own_st (g1 := (mkF m 71 #[.val (.ref o), .val (.ref a), .val (.int (Int32.ofNat (own_next (own_E F) g i k))), .val (.int (Int32.ofNat i))] [])) (st15) ?_
    refine own_st (g1 := (mkF m 74 #[.val (.ref o), .val (.ref a), .val (.int (Int32.ofNat (own_next (own_E F) g i k))), .val (.int ((Int32.ofNat i) + (1 : Int32)))] [])) (fun zt zk => XS.iinc X15.here hx rfl (hb hby d3_71) rfl (l' := #[.val (.ref o), .val (.ref a), .val (.int (Int32.ofNat (own_next (own_E F) g i k))), .val (.int ((Int32.ofNat i) + (1 : Int32)))]) rfl zk) ?_
    rw [own_succ i]
    refine own_st (g1 := (mkF m 21 #[.val (.ref o), .val (.ref a), .val (.int (Int32.ofNat (own_next (own_E F) g i k))), .val (.int (Int32.ofNat (i + 1)))] [])) (fun zt zk => XS.goto X15.here hx rfl (pc0 := 74) (pc' := 21) rfl (hb hby d3_74) (by decide) (by decide) zk) ?_
    rw [own_kmp_succ]
    exact ih (i + 1) (own_next (own_E F) g i k) (upd g i (own_next (own_E F) g i k)) T15 _ h15 (by omega) (by omega) (own_upd_le hg (by omega)) X15 e15 (Fr.snoc X15 N6 gb) (K.wr W15 (Or.inr hb0)) (H.wr W15 q1 q2)
def Q3 (Z : State) (o a : Nat) (n : Nat) (F : Nat → Int32) (h0 : Heap) (n0 : Nat) (v : Option Value) (h : Heap) (L : List Loc) : Prop := ∃ bb : Nat, v = none ∧ Fr n0 L ∧ PTa Z h o a bb n F (own_kmp (own_E F) (n - 1) 1 0 (fun _ => 0))
set_option maxRecDepth 65536 in
set_option maxHeartbeats 40000000 in
theorem rm3 (l : Launch) (Z : State) (a0 : Array Value) (hw : ∀ d ∈ tables_1, d.before a0 Z = true) (ws : List Jvm.Cond) (o a : Nat) (n : Nat) (F : Nat → Int32) (h0 : Heap) (n0 : Nat) (h1 : 1 ≤ n) (h6 : n ≤ 6) (hao : a < o) (go : n0 ≤ o) (E : Exa Z h0 o "com/example/shiftwise/shiftwise/PrefixTable") (F1 : Fld Z h0 o "com/example/shiftwise/shiftwise/PrefixTable" "pattern" "[C" .null) (F2 : Fld Z h0 o "com/example/shiftwise/shiftwise/PrefixTable" "borders" "[I" .null) (V : VA Z h0 a .char n (fun j => .int (F j))) :
    Meets l Z (⟨"com/example/shiftwise/shiftwise/PrefixTable", "<init>", "([C)V"⟩ : MethodName) prog_13_method_1_code 4 none ws ({ frames := 1, cells := 1, slots := 6, locals := 12 } : Room) #[(.ref o), (.ref a)] h0 1 6 (Q3 Z o a n F h0 n0) := by
  refine own_meets (plainFor_of_name pn_3) ?_
  intro p e s m below meth c s₁ hx hZ hby hml hown hnm hret hlk X0 e0
  have hown : s.vm.findClass "com/example/shiftwise/shiftwise/PrefixTable" = some m.cls := hown
  have hnm : meth.name = "<init>" := hnm
  refine own_finV (l := l) (R := ({ frames := 1, cells := 1, slots := 6, locals := 12 } : Room)) (m := m) (args := #[(.ref o), (.ref a)]) (c := c) hx hret hlk ?_
  refine own_cast (ef_3 m o a) ?_
  refine own_st (g1 := (mkF m 1 #[.val (.ref o), .val (.ref a), .unset, .unset] [(.ref o)])) (fun zt zk => XS.aloadN X0.here hx rfl (hb hby d3_0) rfl rfl zk) ?_
  obtain ⟨T16, X16, e16, st16⟩ := initO X0 hx hZ hown (hw _ (List.mem_of_getElem? (i := 15) rfl)) (hw _ (List.mem_of_getElem? (i := 16) rfl)) (hw _ (List.mem_of_getElem? (i := 17) rfl)) e0 (g := (mkF m 1 #[.val (.ref o), .val (.ref a), .unset, .unset] [(.ref o)])) rfl (by rw [hml]; rfl) rfl (hb hby d3_1) (by decide) (W := 0) (by show 2 * 0 + _ ≤ _; exact Nat.le_of_eq rfl) (by decide)
  refine own_st (g1 := (mkF m 4 #[.val (.ref o), .val (.ref a), .unset, .unset] [])) (st16) ?_
  refine own_st (g1 := (mkF m 5 #[.val (.ref o), .val (.ref a), .unset, .unset] [(.ref o)])) (fun zt zk => XS.aloadN X16.here hx rfl (hb hby d3_4) rfl rfl zk) ?_
  refine own_st (g1 := (mkF m 6 #[.val (.ref o), .val (.ref a), .unset, .unset] [(.ref a), (.ref o)])) (fun zt zk => XS.aloadN X16.here hx rfl (hb hby d3_5) rfl rfl zk) ?_
  obtain ⟨T17, h17, X17, e17, W17, st17⟩ := putF X16 hx hZ hown (host := "") (Or.inl (hw _ (List.mem_of_getElem? (i := 18) rfl))) Via.refl e16 F1 E (Or.inr ⟨(hw _ (List.mem_of_getElem? (i := 19) rfl)), rfl, hnm⟩) (hw _ (List.mem_of_getElem? (i := 10) rfl)) (ty := (.array .char)) (by decide) rfl rfl (g := (mkF m 6 #[.val (.ref o), .val (.ref a), .unset, .unset] [(.ref a), (.ref o)])) rfl rfl (hb hby d3_6)
  refine own_st (g1 := (mkF m 9 #[.val (.ref o), .val (.ref a), .unset, .unset] [])) (st17) ?_
  have F1a := F1.same W17
  have F2a := F2.other W17 (Or.inr (slot_ne (Or.inr (hw _ (List.mem_of_getElem? (i := 22) rfl))) (Or.inr (hw _ (List.mem_of_getElem? (i := 19) rfl))) (by decide) (t := (.array .int)) (t' := (.array .char)) (by decide) (by decide)))
  have Ea := E.wr W17
  have Va := V.other W17 (by omega)
  have Na := Fr.snoc X17 (Fr.nil n0) go
  have Ka : Keep h0 h17 [o] := (Keep.refl h0 [o]).wr W17 (Or.inl (List.mem_of_getElem? (i := 0) rfl))
  refine own_st (g1 := (mkF m 10 #[.val (.ref o), .val (.ref a), .unset, .unset] [(.ref o)])) (fun zt zk => XS.aloadN X17.here hx rfl (hb hby d3_9) rfl rfl zk) ?_
  refine own_st (g1 := (mkF m 11 #[.val (.ref o), .val (.ref a), .unset, .unset] [(.ref a), (.ref o)])) (fun zt zk => XS.aloadN X17.here hx rfl (hb hby d3_10) rfl rfl zk) ?_
  refine own_st (g1 := (mkF m 12 #[.val (.ref o), .val (.ref a), .unset, .unset] [(.int (Int32.ofNat n)), (.ref o)])) (own_len X17 hx hZ e17 Va (N := (Int32.ofNat n)) rfl (g := (mkF m 11 #[.val (.ref o), .val (.ref a), .unset, .unset] [(.ref a), (.ref o)])) rfl rfl (hb hby d3_11)) ?_
  obtain ⟨T18, h18, k18, X18, e18, E18, A18, st18⟩ := newP X17 hx hZ (hw _ (List.mem_of_getElem? (i := 20) rfl)) e17 (g := (mkF m 12 #[.val (.ref o), .val (.ref a), .unset, .unset] [(.int (Int32.ofNat n)), (.ref o)])) rfl (hb hby d3_12) rfl (own_nn (by omega)) (cap := 6) (by rw [own_n32 (by omega)]; exact h6) (by decide) (by decide) (by decide)
  obtain ⟨b18, g18⟩ : ∃ z, z = h17.size := ⟨_, rfl⟩
  rw [← g18] at A18 st18
  refine own_st (g1 := (mkF m 14 #[.val (.ref o), .val (.ref a), .unset, .unset] [(.ref b18), (.ref o)])) (st18) ?_
  have U : VA Z h18 b18 .int n (fun _ => .int (Int32.ofNat 0)) := VA.new A18 (own_n32 (by omega))
  have hob : o < b18 := by have := own_el Ea; omega
  have hsz : h0.size ≤ b18 := by have := Ka.1; omega
  have qo : o ≠ b18 := by omega
  have qa : a ≠ b18 := by omega
  obtain ⟨T19, h19, X19, e19, W19, st19⟩ := putF X18 hx hZ hown (host := "") (Or.inl (hw _ (List.mem_of_getElem? (i := 21) rfl))) Via.refl e18 (F2a.ext E18) (Ea.ext E18) (Or.inr ⟨(hw _ (List.mem_of_getElem? (i := 22) rfl)), rfl, hnm⟩) (hw _ (List.mem_of_getElem? (i := 10) rfl)) (ty := (.array .int)) (by decide) rfl rfl (g := (mkF m 14 #[.val (.ref o), .val (.ref a), .unset, .unset] [(.ref b18), (.ref o)])) rfl rfl (hb hby d3_14)
  refine own_st (g1 := (mkF m 17 #[.val (.ref o), .val (.ref a), .unset, .unset] [])) (st19) ?_
  have H2 : PTa Z h19 o a b18 n F (fun _ => 0) := ⟨(Ea.ext E18).wr W19, (F1a.ext E18).other W19 (Or.inr (slot_ne (Or.inr (hw _ (List.mem_of_getElem? (i := 19) rfl))) (Or.inr (hw _ (List.mem_of_getElem? (i := 22) rfl))) (by decide) (t := (.array .char)) (t' := (.array .int)) (by decide) (by decide))), (F2a.ext E18).same W19, (Va.ext E18).other W19 (by omega), U.other W19 (Ne.symm qo)⟩
  have Nb := Fr.snoc X19 Na go
  have Kb : Keep h0 h19 [o] := (Ka.ext E18).wr W19 (Or.inl (List.mem_of_getElem? (i := 0) rfl))
  refine own_st (g1 := (mkF m 18 #[.val (.ref o), .val (.ref a), .unset, .unset] [(.int (0 : Int32))])) (fun zt zk => XS.iconst X19.here hx rfl (hb hby d3_17) zk) ?_
  refine own_st (g1 := (mkF m 19 #[.val (.ref o), .val (.ref a), .val (.int (0 : Int32)), .unset] [])) (fun zt zk => XS.istoreN X19.here hx rfl (hb hby d3_18) rfl (l' := #[.val (.ref o), .val (.ref a), .val (.int (0 : Int32)), .unset]) rfl zk) ?_
  refine own_st (g1 := (mkF m 20 #[.val (.ref o), .val (.ref a), .val (.int (0 : Int32)), .unset] [(.int (1 : Int32))])) (fun zt zk => XS.iconst X19.here hx rfl (hb hby d3_19) zk) ?_
  refine own_st (g1 := (mkF m 21 #[.val (.ref o), .val (.ref a), .val (.int (0 : Int32)), .val (.int (1 : Int32))] [])) (fun zt zk => XS.istoreN X19.here hx rfl (hb hby d3_20) rfl (l' := #[.val (.ref o), .val (.ref a), .val (.int (0 : Int32)), .val (.int (1 : Int32))]) rfl zk) ?_
  refine own_bind (loopO3 hx hZ hw hby hml hown hnm o a b18 n F n0 h0 h6 (by omega) hsz qo qa (n - 1) 1 0 (fun _ => 0) T19 _ h19 (by omega) (by decide) (fun j => Nat.zero_le j) X19 e19 Nb Kb H2) ?_
  rintro T7 L7 _ _ _ X7 ⟨rfl, rfl, ⟨z7, rfl⟩, N7, K7, H7⟩
  exact own_here X7 ⟨77, _, rfl, (hb hby d3_77), (by decide), (by decide), ⟨b18, rfl, N7, H7⟩⟩
theorem pn_0 : plainName "com/example/shiftwise/shiftwise/PrefixTableOverlapPinLaw" = true := by first | (simp [plainName, overriddenIn]; done) | decide +kernel
theorem ef_0 (m : MethodId) (x0 : Int32) (x1 : Int32) (x2 : Int32) (x3 : Int32) : entryFrame m #[(.int x0), (.int x1), (.int x2), (.int x3)] maxLocals = mkF m 0 #[.val (.int x0), .val (.int x1), .val (.int x2), .val (.int x3), .unset, .unset, .unset, .unset, .unset, .unset, .unset, .unset, .unset, .unset] [] := by first | (simp [entryFrame, mkF, argsToLocals, Value.category, maxLocals]; done) | rfl
def Q0 (h0 : Heap) (n0 : Nat) (v : Option Value) (h : Heap) (L : List Loc) : Prop := v = some (.int (1 : Int32)) ∧ Fr n0 L
set_option maxRecDepth 65536 in
set_option maxHeartbeats 40000000 in
theorem rm0 (l : Launch) (Z : State) (a0 : Array Value) (hw : ∀ d ∈ tables_1, d.before a0 Z = true) (ws : List Jvm.Cond) (p1 p2 p3 p4 : Int32) (h0 : Heap) (n0 : Nat) (Z0 : n0 ≤ h0.size) :
    Meets l Z x code maxLocals ret ws room_1 #[(.int p1), (.int p2), (.int p3), (.int p4)] h0 3 14 (Q0 h0 n0) := by
  refine own_meets (plainFor_of_name pn_0) ?_
  intro p e s m below meth c s₁ hx hZ hby hml hown hnm hret hlk X0 e0
  have hown : s.vm.findClass "com/example/shiftwise/shiftwise/PrefixTableOverlapPinLaw" = some m.cls := hown
  have hnm : meth.name = "law" := hnm
  refine own_finN (l := l) (R := room_1) (m := m) (args := #[(.int p1), (.int p2), (.int p3), (.int p4)]) (c := c) (by simp) hx hret hlk ?_
  refine own_cast (ef_0 m p1 p2 p3 p4) ?_
  refine own_st (g1 := (mkF m 1 #[.val (.int p1), .val (.int p2), .val (.int p3), .val (.int p4), .unset, .unset, .unset, .unset, .unset, .unset, .unset, .unset, .unset, .unset] [(.int p1)])) (fun zt zk => XS.iloadN X0.here hx rfl (hb hby at_0) rfl zk) ?_
  refine own_st (g1 := (mkF m 3 #[.val (.int p1), .val (.int p2), .val (.int p3), .val (.int p4), .unset, .unset, .unset, .unset, .unset, .unset, .unset, .unset, .unset, .unset] [(.int (2147483647 : Int32)), (.int p1)])) (X0.ldcInt hx hown (mvT hZ (hw _ (List.mem_of_getElem? (i := 0) rfl))) (g := (mkF m 1 #[.val (.int p1), .val (.int p2), .val (.int p3), .val (.int p4), .unset, .unset, .unset, .unset, .unset, .unset, .unset, .unset, .unset, .unset] [(.int p1)])) rfl (hb hby at_1)) ?_
  refine own_st (g1 := (mkF m 4 #[.val (.int p1), .val (.int p2), .val (.int p3), .val (.int p4), .unset, .unset, .unset, .unset, .unset, .unset, .unset, .unset, .unset, .unset] [(.int (p1 &&& (2147483647 : Int32)))])) (fun zt zk => XS.iand X0.here hx rfl (hb hby at_3) rfl zk) ?_
  refine own_st (g1 := (mkF m 6 #[.val (.int p1), .val (.int p2), .val (.int p3), .val (.int p4), .unset, .unset, .unset, .unset, .unset, .unset, .unset, .unset, .unset, .unset] [(.int (6 : Int32)), (.int (p1 &&& (2147483647 : Int32)))])) (fun zt zk => XS.bipush X0.here hx rfl (hb hby at_4) zk) ?_
  refine own_st (g1 := (mkF m 7 #[.val (.int p1), .val (.int p2), .val (.int p3), .val (.int p4), .unset, .unset, .unset, .unset, .unset, .unset, .unset, .unset, .unset, .unset] [(.int ((p1 &&& (2147483647 : Int32)) - ((p1 &&& (2147483647 : Int32)) / (6 : Int32)) * (6 : Int32)))])) (fun zt zk => XS.irem X0.here hx rfl (hb hby at_6) rfl (by decide) zk) ?_
  refine own_st (g1 := (mkF m 8 #[.val (.int p1), .val (.int p2), .val (.int p3), .val (.int p4), .unset, .unset, .unset, .unset, .unset, .unset, .unset, .unset, .unset, .unset] [(.int (1 : Int32)), (.int ((p1 &&& (2147483647 : Int32)) - ((p1 &&& (2147483647 : Int32)) / (6 : Int32)) * (6 : Int32)))])) (fun zt zk => XS.iconst X0.here hx rfl (hb hby at_7) zk) ?_
  refine own_st (g1 := (mkF m 9 #[.val (.int p1), .val (.int p2), .val (.int p3), .val (.int p4), .unset, .unset, .unset, .unset, .unset, .unset, .unset, .unset, .unset, .unset] [(.int (((p1 &&& (2147483647 : Int32)) - ((p1 &&& (2147483647 : Int32)) / (6 : Int32)) * (6 : Int32)) + (1 : Int32)))])) (fun zt zk => XS.iadd X0.here hx rfl (hb hby at_8) rfl zk) ?_
  obtain ⟨n, h1, h6, hn⟩ : ∃ n : Nat, 1 ≤ n ∧ n ≤ 6 ∧ (((p1 &&& (2147483647 : Int32)) - ((p1 &&& (2147483647 : Int32)) / (6 : Int32)) * (6 : Int32)) + (1 : Int32)) = Int32.ofNat n := own_n _
  rw [hn]
  refine own_st (g1 := (mkF m 11 #[.val (.int p1), .val (.int p2), .val (.int p3), .val (.int p4), .val (.int (Int32.ofNat n)), .unset, .unset, .unset, .unset, .unset, .unset, .unset, .unset, .unset] [])) (fun zt zk => XS.istore X0.here hx rfl (hb hby at_9) rfl (l' := #[.val (.int p1), .val (.int p2), .val (.int p3), .val (.int p4), .val (.int (Int32.ofNat n)), .unset, .unset, .unset, .unset, .unset, .unset, .unset, .unset, .unset]) rfl zk) ?_
  refine own_st (g1 := (mkF m 12 #[.val (.int p1), .val (.int p2), .val (.int p3), .val (.int p4), .val (.int (Int32.ofNat n)), .unset, .unset, .unset, .unset, .unset, .unset, .unset, .unset, .unset] [(.int p2)])) (fun zt zk => XS.iloadN X0.here hx rfl (hb hby at_11) rfl zk) ?_
  refine own_st (g1 := (mkF m 13 #[.val (.int p1), .val (.int p2), .val (.int p3), .val (.int p4), .val (.int (Int32.ofNat n)), .unset, .unset, .unset, .unset, .unset, .unset, .unset, .unset, .unset] [(.int (0 : Int32)), (.int p2)])) (fun zt zk => XS.iconst X0.here hx rfl (hb hby at_12) zk) ?_
  refine own_st (g1 := (mkF m 14 #[.val (.int p1), .val (.int p2), .val (.int p3), .val (.int p4), .val (.int (Int32.ofNat n)), .unset, .unset, .unset, .unset, .unset, .unset, .unset, .unset, .unset] [(.int p3), (.int (0 : Int32)), (.int p2)])) (fun zt zk => XS.iloadN X0.here hx rfl (hb hby at_13) rfl zk) ?_
  refine own_st (g1 := (mkF m 15 #[.val (.int p1), .val (.int p2), .val (.int p3), .val (.int p4), .val (.int (Int32.ofNat n)), .unset, .unset, .unset, .unset, .unset, .unset, .unset, .unset, .unset] [(.int p4), (.int p3), (.int (0 : Int32)), (.int p2)])) (fun zt zk => XS.iloadN X0.here hx rfl (hb hby at_14) rfl zk) ?_
  obtain ⟨_, _, ⟨T20, L20, k20, n20⟩, -, X20, ⟨Lc20, hQ20, l20, y20, z20⟩, st20⟩ := Jvm.LawKit.callS X0 hx (y := (⟨"com/example/shiftwise/shiftwise/PrefixTableOverlapPinLaw", "ch", "(IIII)C"⟩ : MethodName)) hown (mvT hZ (hw _ (List.mem_of_getElem? (i := 1) rfl))) (mvT hZ (hw _ (List.mem_of_getElem? (i := 2) rfl))) (mvT hZ (hw _ (List.mem_of_getElem? (i := 3) rfl))) (mvT hZ (hw _ (List.mem_of_getElem? (i := 4) rfl))) (by decide) (backOf (W := 0) (rm1 l Z a0 hw [] p2 (0 : Int32) p3 p4 h0 n0) hZ (hw _ (List.mem_of_getElem? (i := 4) rfl)) (hw _ (List.mem_of_getElem? (i := 3) rfl)) (by decide) (by decide)) (g := (mkF m 15 #[.val (.int p1), .val (.int p2), .val (.int p3), .val (.int p4), .val (.int (Int32.ofNat n)), .unset, .unset, .unset, .unset, .unset, .unset, .unset, .unset, .unset] [(.int p4), (.int p3), (.int (0 : Int32)), (.int p2)])) rfl (by rw [hml]; rfl) (argsL := [(.int p2), (.int (0 : Int32)), (.int p3), (.int p4)]) (rest := []) (lenOf pd_1 rfl) rfl (by show 2 * 0 + _ ≤ _; exact Nat.le_of_eq rfl) (hb hby at_15) (fun _ _ => ⟨rfl, e0, (by decide : 0 + 0 ≤ _), (by decide : 0 + 0 ≤ _)⟩)
  dsimp only [Pt.U, Pt.locs, Pt.cells, Pt.slots] at X20 l20 y20 z20 st20 hQ20
  replace X20 := own_stand X20 l20 y20 z20
  clear l20 y20 z20
  obtain ⟨z0, rfl, N20, hh20⟩ := hQ20
  refine own_st (g1 := (mkF m 18 #[.val (.int p1), .val (.int p2), .val (.int p3), .val (.int p4), .val (.int (Int32.ofNat n)), .unset, .unset, .unset, .unset, .unset, .unset, .unset, .unset, .unset] [(.int z0)])) (st20) ?_
  have eh20 : T20.heap = h0 := hh20
  refine own_st (g1 := (mkF m 20 #[.val (.int p1), .val (.int p2), .val (.int p3), .val (.int p4), .val (.int (Int32.ofNat n)), .val (.int z0), .unset, .unset, .unset, .unset, .unset, .unset, .unset, .unset] [])) (fun zt zk => XS.istore X20.here hx rfl (hb hby at_18) rfl (l' := #[.val (.int p1), .val (.int p2), .val (.int p3), .val (.int p4), .val (.int (Int32.ofNat n)), .val (.int z0), .unset, .unset, .unset, .unset, .unset, .unset, .unset, .unset]) rfl zk) ?_
  refine own_st (g1 := (mkF m 21 #[.val (.int p1), .val (.int p2), .val (.int p3), .val (.int p4), .val (.int (Int32.ofNat n)), .val (.int z0), .unset, .unset, .unset, .unset, .unset, .unset, .unset, .unset] [(.int p2)])) (fun zt zk => XS.iloadN X20.here hx rfl (hb hby at_20) rfl zk) ?_
  refine own_st (g1 := (mkF m 22 #[.val (.int p1), .val (.int p2), .val (.int p3), .val (.int p4), .val (.int (Int32.ofNat n)), .val (.int z0), .unset, .unset, .unset, .unset, .unset, .unset, .unset, .unset] [(.int (1 : Int32)), (.int p2)])) (fun zt zk => XS.iconst X20.here hx rfl (hb hby at_21) zk) ?_
  refine own_st (g1 := (mkF m 23 #[.val (.int p1), .val (.int p2), .val (.int p3), .val (.int p4), .val (.int (Int32.ofNat n)), .val (.int z0), .unset, .unset, .unset, .unset, .unset, .unset, .unset, .unset] [(.int p3), (.int (1 : Int32)), (.int p2)])) (fun zt zk => XS.iloadN X20.here hx rfl (hb hby at_22) rfl zk) ?_
  refine own_st (g1 := (mkF m 24 #[.val (.int p1), .val (.int p2), .val (.int p3), .val (.int p4), .val (.int (Int32.ofNat n)), .val (.int z0), .unset, .unset, .unset, .unset, .unset, .unset, .unset, .unset] [(.int p4), (.int p3), (.int (1 : Int32)), (.int p2)])) (fun zt zk => XS.iloadN X20.here hx rfl (hb hby at_23) rfl zk) ?_
  obtain ⟨_, _, ⟨T21, L21, k21, n21⟩, -, X21, ⟨Lc21, hQ21, l21, y21, z21⟩, st21⟩ := Jvm.LawKit.callS X20 hx (y := (⟨"com/example/shiftwise/shiftwise/PrefixTableOverlapPinLaw", "ch", "(IIII)C"⟩ : MethodName)) hown (mvT hZ (hw _ (List.mem_of_getElem? (i := 1) rfl))) (mvT hZ (hw _ (List.mem_of_getElem? (i := 2) rfl))) (mvT hZ (hw _ (List.mem_of_getElem? (i := 3) rfl))) (mvT hZ (hw _ (List.mem_of_getElem? (i := 4) rfl))) (by decide) (backOf (W := 0) (rm1 l Z a0 hw [] p2 (1 : Int32) p3 p4 h0 n0) hZ (hw _ (List.mem_of_getElem? (i := 4) rfl)) (hw _ (List.mem_of_getElem? (i := 3) rfl)) (by decide) (by decide)) (g := (mkF m 24 #[.val (.int p1), .val (.int p2), .val (.int p3), .val (.int p4), .val (.int (Int32.ofNat n)), .val (.int z0), .unset, .unset, .unset, .unset, .unset, .unset, .unset, .unset] [(.int p4), (.int p3), (.int (1 : Int32)), (.int p2)])) rfl (by rw [hml]; rfl) (argsL := [(.int p2), (.int (1 : Int32)), (.int p3), (.int p4)]) (rest := []) (lenOf pd_1 rfl) rfl (by show 2 * 0 + _ ≤ _; exact Nat.le_of_eq rfl) (hb hby at_24) (fun _ _ => ⟨rfl, eh20, (by decide : 0 + 0 + 0 ≤ _), (by decide : 0 + 0 + 0 ≤ _)⟩)
  dsimp only [Pt.U, Pt.locs, Pt.cells, Pt.slots] at X21 l21 y21 z21 st21 hQ21
  replace X21 := own_stand X21 l21 y21 z21
  clear l21 y21 z21
  obtain ⟨z1, rfl, N21, hh21⟩ := hQ21
  refine own_st (g1 := (mkF m 27 #[.val (.int p1), .val (.int p2), .val (.int p3), .val (.int p4), .val (.int (Int32.ofNat n)), .val (.int z0), .unset, .unset, .unset, .unset, .unset, .unset, .unset, .unset] [(.int z1)])) (st21) ?_
  have eh21 : T21.heap = h0 := hh21
  refine own_st (g1 := (mkF m 29 #[.val (.int p1), .val (.int p2), .val (.int p3), .val (.int p4), .val (.int (Int32.ofNat n)), .val (.int z0), .val (.int z1), .unset, .unset, .unset, .unset, .unset, .unset, .unset] [])) (fun zt zk => XS.istore X21.here hx rfl (hb hby at_27) rfl (l' := #[.val (.int p1), .val (.int p2), .val (.int p3), .val (.int p4), .val (.int (Int32.ofNat n)), .val (.int z0), .val (.int z1), .unset, .unset, .unset, .unset, .unset, .unset, .unset]) rfl zk) ?_
  refine own_st (g1 := (mkF m 30 #[.val (.int p1), .val (.int p2), .val (.int p3), .val (.int p4), .val (.int (Int32.ofNat n)), .val (.int z0), .val (.int z1), .unset, .unset, .unset, .unset, .unset, .unset, .unset] [(.int p2)])) (fun zt zk => XS.iloadN X21.here hx rfl (hb hby at_29) rfl zk) ?_
  refine own_st (g1 := (mkF m 31 #[.val (.int p1), .val (.int p2), .val (.int p3), .val (.int p4), .val (.int (Int32.ofNat n)), .val (.int z0), .val (.int z1), .unset, .unset, .unset, .unset, .unset, .unset, .unset] [(.int (2 : Int32)), (.int p2)])) (fun zt zk => XS.iconst X21.here hx rfl (hb hby at_30) zk) ?_
  refine own_st (g1 := (mkF m 32 #[.val (.int p1), .val (.int p2), .val (.int p3), .val (.int p4), .val (.int (Int32.ofNat n)), .val (.int z0), .val (.int z1), .unset, .unset, .unset, .unset, .unset, .unset, .unset] [(.int p3), (.int (2 : Int32)), (.int p2)])) (fun zt zk => XS.iloadN X21.here hx rfl (hb hby at_31) rfl zk) ?_
  refine own_st (g1 := (mkF m 33 #[.val (.int p1), .val (.int p2), .val (.int p3), .val (.int p4), .val (.int (Int32.ofNat n)), .val (.int z0), .val (.int z1), .unset, .unset, .unset, .unset, .unset, .unset, .unset] [(.int p4), (.int p3), (.int (2 : Int32)), (.int p2)])) (fun zt zk => XS.iloadN X21.here hx rfl (hb hby at_32) rfl zk) ?_
  obtain ⟨_, _, ⟨T22, L22, k22, n22⟩, -, X22, ⟨Lc22, hQ22, l22, y22, z22⟩, st22⟩ := Jvm.LawKit.callS X21 hx (y := (⟨"com/example/shiftwise/shiftwise/PrefixTableOverlapPinLaw", "ch", "(IIII)C"⟩ : MethodName)) hown (mvT hZ (hw _ (List.mem_of_getElem? (i := 1) rfl))) (mvT hZ (hw _ (List.mem_of_getElem? (i := 2) rfl))) (mvT hZ (hw _ (List.mem_of_getElem? (i := 3) rfl))) (mvT hZ (hw _ (List.mem_of_getElem? (i := 4) rfl))) (by decide) (backOf (W := 0) (rm1 l Z a0 hw [] p2 (2 : Int32) p3 p4 h0 n0) hZ (hw _ (List.mem_of_getElem? (i := 4) rfl)) (hw _ (List.mem_of_getElem? (i := 3) rfl)) (by decide) (by decide)) (g := (mkF m 33 #[.val (.int p1), .val (.int p2), .val (.int p3), .val (.int p4), .val (.int (Int32.ofNat n)), .val (.int z0), .val (.int z1), .unset, .unset, .unset, .unset, .unset, .unset, .unset] [(.int p4), (.int p3), (.int (2 : Int32)), (.int p2)])) rfl (by rw [hml]; rfl) (argsL := [(.int p2), (.int (2 : Int32)), (.int p3), (.int p4)]) (rest := []) (lenOf pd_1 rfl) rfl (by show 2 * 0 + _ ≤ _; exact Nat.le_of_eq rfl) (hb hby at_33) (fun _ _ => ⟨rfl, eh21, (by decide : 0 + 0 + 0 + 0 ≤ _), (by decide : 0 + 0 + 0 + 0 ≤ _)⟩)
  dsimp only [Pt.U, Pt.locs, Pt.cells, Pt.slots] at X22 l22 y22 z22 st22 hQ22
  replace X22 := own_stand X22 l22 y22 z22
  clear l22 y22 z22
  obtain ⟨z2, rfl, N22, hh22⟩ := hQ22
  refine own_st (g1 := (mkF m 36 #[.val (.int p1), .val (.int p2), .val (.int p3), .val (.int p4), .val (.int (Int32.ofNat n)), .val (.int z0), .val (.int z1), .unset, .unset, .unset, .unset, .unset, .unset, .unset] [(.int z2)])) (st22) ?_
  have eh22 : T22.heap = h0 := hh22
  refine own_st (g1 := (mkF m 38 #[.val (.int p1), .val (.int p2), .val (.int p3), .val (.int p4), .val (.int (Int32.ofNat n)), .val (.int z0), .val (.int z1), .val (.int z2), .unset, .unset, .unset, .unset, .unset, .unset] [])) (fun zt zk => XS.istore X22.here hx rfl (hb hby at_36) rfl (l' := #[.val (.int p1), .val (.int p2), .val (.int p3), .val (.int p4), .val (.int (Int32.ofNat n)), .val (.int z0), .val (.int z1), .val (.int z2), .unset, .unset, .unset, .unset, .unset, .unset]) rfl zk) ?_
  refine own_st (g1 := (mkF m 39 #[.val (.int p1), .val (.int p2), .val (.int p3), .val (.int p4), .val (.int (Int32.ofNat n)), .val (.int z0), .val (.int z1), .val (.int z2), .unset, .unset, .unset, .unset, .unset, .unset] [(.int p2)])) (fun zt zk => XS.iloadN X22.here hx rfl (hb hby at_38) rfl zk) ?_
  refine own_st (g1 := (mkF m 40 #[.val (.int p1), .val (.int p2), .val (.int p3), .val (.int p4), .val (.int (Int32.ofNat n)), .val (.int z0), .val (.int z1), .val (.int z2), .unset, .unset, .unset, .unset, .unset, .unset] [(.int (3 : Int32)), (.int p2)])) (fun zt zk => XS.iconst X22.here hx rfl (hb hby at_39) zk) ?_
  refine own_st (g1 := (mkF m 41 #[.val (.int p1), .val (.int p2), .val (.int p3), .val (.int p4), .val (.int (Int32.ofNat n)), .val (.int z0), .val (.int z1), .val (.int z2), .unset, .unset, .unset, .unset, .unset, .unset] [(.int p3), (.int (3 : Int32)), (.int p2)])) (fun zt zk => XS.iloadN X22.here hx rfl (hb hby at_40) rfl zk) ?_
  refine own_st (g1 := (mkF m 42 #[.val (.int p1), .val (.int p2), .val (.int p3), .val (.int p4), .val (.int (Int32.ofNat n)), .val (.int z0), .val (.int z1), .val (.int z2), .unset, .unset, .unset, .unset, .unset, .unset] [(.int p4), (.int p3), (.int (3 : Int32)), (.int p2)])) (fun zt zk => XS.iloadN X22.here hx rfl (hb hby at_41) rfl zk) ?_
  obtain ⟨_, _, ⟨T23, L23, k23, n23⟩, -, X23, ⟨Lc23, hQ23, l23, y23, z23⟩, st23⟩ := Jvm.LawKit.callS X22 hx (y := (⟨"com/example/shiftwise/shiftwise/PrefixTableOverlapPinLaw", "ch", "(IIII)C"⟩ : MethodName)) hown (mvT hZ (hw _ (List.mem_of_getElem? (i := 1) rfl))) (mvT hZ (hw _ (List.mem_of_getElem? (i := 2) rfl))) (mvT hZ (hw _ (List.mem_of_getElem? (i := 3) rfl))) (mvT hZ (hw _ (List.mem_of_getElem? (i := 4) rfl))) (by decide) (backOf (W := 0) (rm1 l Z a0 hw [] p2 (3 : Int32) p3 p4 h0 n0) hZ (hw _ (List.mem_of_getElem? (i := 4) rfl)) (hw _ (List.mem_of_getElem? (i := 3) rfl)) (by decide) (by decide)) (g := (mkF m 42 #[.val (.int p1), .val (.int p2), .val (.int p3), .val (.int p4), .val (.int (Int32.ofNat n)), .val (.int z0), .val (.int z1), .val (.int z2), .unset, .unset, .unset, .unset, .unset, .unset] [(.int p4), (.int p3), (.int (3 : Int32)), (.int p2)])) rfl (by rw [hml]; rfl) (argsL := [(.int p2), (.int (3 : Int32)), (.int p3), (.int p4)]) (rest := []) (lenOf pd_1 rfl) rfl (by show 2 * 0 + _ ≤ _; exact Nat.le_of_eq rfl) (hb hby at_42) (fun _ _ => ⟨rfl, eh22, (by decide : 0 + 0 + 0 + 0 + 0 ≤ _), (by decide : 0 + 0 + 0 + 0 + 0 ≤ _)⟩)
  dsimp only [Pt.U, Pt.locs, Pt.cells, Pt.slots] at X23 l23 y23 z23 st23 hQ23
  replace X23 := own_stand X23 l23 y23 z23
  clear l23 y23 z23
  obtain ⟨z3, rfl, N23, hh23⟩ := hQ23
  refine own_st (g1 := (mkF m 45 #[.val (.int p1), .val (.int p2), .val (.int p3), .val (.int p4), .val (.int (Int32.ofNat n)), .val (.int z0), .val (.int z1), .val (.int z2), .unset, .unset, .unset, .unset, .unset, .unset] [(.int z3)])) (st23) ?_
  have eh23 : T23.heap = h0 := hh23
  refine own_st (g1 := (mkF m 47 #[.val (.int p1), .val (.int p2), .val (.int p3), .val (.int p4), .val (.int (Int32.ofNat n)), .val (.int z0), .val (.int z1), .val (.int z2), .val (.int z3), .unset, .unset, .unset, .unset, .unset] [])) (fun zt zk => XS.istore X23.here hx rfl (hb hby at_45) rfl (l' := #[.val (.int p1), .val (.int p2), .val (.int p3), .val (.int p4), .val (.int (Int32.ofNat n)), .val (.int z0), .val (.int z1), .val (.int z2), .val (.int z3), .unset, .unset, .unset, .unset, .unset]) rfl zk) ?_
  refine own_st (g1 := (mkF m 48 #[.val (.int p1), .val (.int p2), .val (.int p3), .val (.int p4), .val (.int (Int32.ofNat n)), .val (.int z0), .val (.int z1), .val (.int z2), .val (.int z3), .unset, .unset, .unset, .unset, .unset] [(.int p2)])) (fun zt zk => XS.iloadN X23.here hx rfl (hb hby at_47) rfl zk) ?_
  refine own_st (g1 := (mkF m 49 #[.val (.int p1), .val (.int p2), .val (.int p3), .val (.int p4), .val (.int (Int32.ofNat n)), .val (.int z0), .val (.int z1), .val (.int z2), .val (.int z3), .unset, .unset, .unset, .unset, .unset] [(.int (4 : Int32)), (.int p2)])) (fun zt zk => XS.iconst X23.here hx rfl (hb hby at_48) zk) ?_
  refine own_st (g1 := (mkF m 50 #[.val (.int p1), .val (.int p2), .val (.int p3), .val (.int p4), .val (.int (Int32.ofNat n)), .val (.int z0), .val (.int z1), .val (.int z2), .val (.int z3), .unset, .unset, .unset, .unset, .unset] [(.int p3), (.int (4 : Int32)), (.int p2)])) (fun zt zk => XS.iloadN X23.here hx rfl (hb hby at_49) rfl zk) ?_
  refine own_st (g1 := (mkF m 51 #[.val (.int p1), .val (.int p2), .val (.int p3), .val (.int p4), .val (.int (Int32.ofNat n)), .val (.int z0), .val (.int z1), .val (.int z2), .val (.int z3), .unset, .unset, .unset, .unset, .unset] [(.int p4), (.int p3), (.int (4 : Int32)), (.int p2)])) (fun zt zk => XS.iloadN X23.here hx rfl (hb hby at_50) rfl zk) ?_
  obtain ⟨_, _, ⟨T24, L24, k24, n24⟩, -, X24, ⟨Lc24, hQ24, l24, y24, z24⟩, st24⟩ := Jvm.LawKit.callS X23 hx (y := (⟨"com/example/shiftwise/shiftwise/PrefixTableOverlapPinLaw", "ch", "(IIII)C"⟩ : MethodName)) hown (mvT hZ (hw _ (List.mem_of_getElem? (i := 1) rfl))) (mvT hZ (hw _ (List.mem_of_getElem? (i := 2) rfl))) (mvT hZ (hw _ (List.mem_of_getElem? (i := 3) rfl))) (mvT hZ (hw _ (List.mem_of_getElem? (i := 4) rfl))) (by decide) (backOf (W := 0) (rm1 l Z a0 hw [] p2 (4 : Int32) p3 p4 h0 n0) hZ (hw _ (List.mem_of_getElem? (i := 4) rfl)) (hw _ (List.mem_of_getElem? (i := 3) rfl)) (by decide) (by decide)) (g := (mkF m 51 #[.val (.int p1), .val (.int p2), .val (.int p3), .val (.int p4), .val (.int (Int32.ofNat n)), .val (.int z0), .val (.int z1), .val (.int z2), .val (.int z3), .unset, .unset, .unset, .unset, .unset] [(.int p4), (.int p3), (.int (4 : Int32)), (.int p2)])) rfl (by rw [hml]; rfl) (argsL := [(.int p2), (.int (4 : Int32)), (.int p3), (.int p4)]) (rest := []) (lenOf pd_1 rfl) rfl (by show 2 * 0 + _ ≤ _; exact Nat.le_of_eq rfl) (hb hby at_51) (fun _ _ => ⟨rfl, eh23, (by decide : 0 + 0 + 0 + 0 + 0 + 0 ≤ _), (by decide : 0 + 0 + 0 + 0 + 0 + 0 ≤ _)⟩)
  dsimp only [Pt.U, Pt.locs, Pt.cells, Pt.slots] at X24 l24 y24 z24 st24 hQ24
  replace X24 := own_stand X24 l24 y24 z24
  clear l24 y24 z24
  obtain ⟨z4, rfl, N24, hh24⟩ := hQ24
  refine own_st (g1 := (mkF m 54 #[.val (.int p1), .val (.int p2), .val (.int p3), .val (.int p4), .val (.int (Int32.ofNat n)), .val (.int z0), .val (.int z1), .val (.int z2), .val (.int z3), .unset, .unset, .unset, .unset, .unset] [(.int z4)])) (st24) ?_
  have eh24 : T24.heap = h0 := hh24
  refine own_st (g1 := (mkF m 56 #[.val (.int p1), .val (.int p2), .val (.int p3), .val (.int p4), .val (.int (Int32.ofNat n)), .val (.int z0), .val (.int z1), .val (.int z2), .val (.int z3), .val (.int z4), .unset, .unset, .unset, .unset] [])) (fun zt zk => XS.istore X24.here hx rfl (hb hby at_54) rfl (l' := #[.val (.int p1), .val (.int p2), .val (.int p3), .val (.int p4), .val (.int (Int32.ofNat n)), .val (.int z0), .val (.int z1), .val (.int z2), .val (.int z3), .val (.int z4), .unset, .unset, .unset, .unset]) rfl zk) ?_
  refine own_st (g1 := (mkF m 57 #[.val (.int p1), .val (.int p2), .val (.int p3), .val (.int p4), .val (.int (Int32.ofNat n)), .val (.int z0), .val (.int z1), .val (.int z2), .val (.int z3), .val (.int z4), .unset, .unset, .unset, .unset] [(.int p2)])) (fun zt zk => XS.iloadN X24.here hx rfl (hb hby at_56) rfl zk) ?_
  refine own_st (g1 := (mkF m 58 #[.val (.int p1), .val (.int p2), .val (.int p3), .val (.int p4), .val (.int (Int32.ofNat n)), .val (.int z0), .val (.int z1), .val (.int z2), .val (.int z3), .val (.int z4), .unset, .unset, .unset, .unset] [(.int (5 : Int32)), (.int p2)])) (fun zt zk => XS.iconst X24.here hx rfl (hb hby at_57) zk) ?_
  refine own_st (g1 := (mkF m 59 #[.val (.int p1), .val (.int p2), .val (.int p3), .val (.int p4), .val (.int (Int32.ofNat n)), .val (.int z0), .val (.int z1), .val (.int z2), .val (.int z3), .val (.int z4), .unset, .unset, .unset, .unset] [(.int p3), (.int (5 : Int32)), (.int p2)])) (fun zt zk => XS.iloadN X24.here hx rfl (hb hby at_58) rfl zk) ?_
  refine own_st (g1 := (mkF m 60 #[.val (.int p1), .val (.int p2), .val (.int p3), .val (.int p4), .val (.int (Int32.ofNat n)), .val (.int z0), .val (.int z1), .val (.int z2), .val (.int z3), .val (.int z4), .unset, .unset, .unset, .unset] [(.int p4), (.int p3), (.int (5 : Int32)), (.int p2)])) (fun zt zk => XS.iloadN X24.here hx rfl (hb hby at_59) rfl zk) ?_
  obtain ⟨_, _, ⟨T25, L25, k25, n25⟩, -, X25, ⟨Lc25, hQ25, l25, y25, z25⟩, st25⟩ := Jvm.LawKit.callS X24 hx (y := (⟨"com/example/shiftwise/shiftwise/PrefixTableOverlapPinLaw", "ch", "(IIII)C"⟩ : MethodName)) hown (mvT hZ (hw _ (List.mem_of_getElem? (i := 1) rfl))) (mvT hZ (hw _ (List.mem_of_getElem? (i := 2) rfl))) (mvT hZ (hw _ (List.mem_of_getElem? (i := 3) rfl))) (mvT hZ (hw _ (List.mem_of_getElem? (i := 4) rfl))) (by decide) (backOf (W := 0) (rm1 l Z a0 hw [] p2 (5 : Int32) p3 p4 h0 n0) hZ (hw _ (List.mem_of_getElem? (i := 4) rfl)) (hw _ (List.mem_of_getElem? (i := 3) rfl)) (by decide) (by decide)) (g := (mkF m 60 #[.val (.int p1), .val (.int p2), .val (.int p3), .val (.int p4), .val (.int (Int32.ofNat n)), .val (.int z0), .val (.int z1), .val (.int z2), .val (.int z3), .val (.int z4), .unset, .unset, .unset, .unset] [(.int p4), (.int p3), (.int (5 : Int32)), (.int p2)])) rfl (by rw [hml]; rfl) (argsL := [(.int p2), (.int (5 : Int32)), (.int p3), (.int p4)]) (rest := []) (lenOf pd_1 rfl) rfl (by show 2 * 0 + _ ≤ _; exact Nat.le_of_eq rfl) (hb hby at_60) (fun _ _ => ⟨rfl, eh24, (by decide : 0 + 0 + 0 + 0 + 0 + 0 + 0 ≤ _), (by decide : 0 + 0 + 0 + 0 + 0 + 0 + 0 ≤ _)⟩)
  dsimp only [Pt.U, Pt.locs, Pt.cells, Pt.slots] at X25 l25 y25 z25 st25 hQ25
  replace X25 := own_stand X25 l25 y25 z25
  clear l25 y25 z25
  obtain ⟨z5, rfl, N25, hh25⟩ := hQ25
  refine own_st (g1 := (mkF m 63 #[.val (.int p1), .val (.int p2), .val (.int p3), .val (.int p4), .val (.int (Int32.ofNat n)), .val (.int z0), .val (.int z1), .val (.int z2), .val (.int z3), .val (.int z4), .unset, .unset, .unset, .unset] [(.int z5)])) (st25) ?_
  have eh25 : T25.heap = h0 := hh25
  refine own_st (g1 := (mkF m 65 #[.val (.int p1), .val (.int p2), .val (.int p3), .val (.int p4), .val (.int (Int32.ofNat n)), .val (.int z0), .val (.int z1), .val (.int z2), .val (.int z3), .val (.int z4), .val (.int z5), .unset, .unset, .unset] [])) (fun zt zk => XS.istore X25.here hx rfl (hb hby at_63) rfl (l' := #[.val (.int p1), .val (.int p2), .val (.int p3), .val (.int p4), .val (.int (Int32.ofNat n)), .val (.int z0), .val (.int z1), .val (.int z2), .val (.int z3), .val (.int z4), .val (.int z5), .unset, .unset, .unset]) rfl zk) ?_
  have M := (Fr.app (Fr.app (Fr.app (Fr.app (Fr.app (Fr.app (Fr.nil n0) N20) N21) N22) N23) N24) N25)
  obtain ⟨F, hF⟩ : ∃ F : Nat → Int32, F = own_F (nar .char z0) (nar .char z1) (nar .char z2) (nar .char z3) (nar .char z4) (nar .char z5) := ⟨_, rfl⟩
  have hA : Goes p l e room_1 s m #[(.int p1), (.int p2), (.int p3), (.int p4)] below meth c T25 (mkF m 65 #[.val (.int p1), .val (.int p2), .val (.int p3), .val (.int p4), .val (.int (Int32.ofNat n)), .val (.int z0), .val (.int z1), .val (.int z2), .val (.int z3), .val (.int z4), .val (.int z5), .unset, .unset, .unset] []) (fun T' L' k' n' g' => ∃ b : Nat, k' = 1 ∧ n' = 6 ∧ g' = (mkF m 246 #[.val (.int p1), .val (.int p2), .val (.int p3), .val (.int p4), .val (.int (Int32.ofNat n)), .val (.int z0), .val (.int z1), .val (.int z2), .val (.int z3), .val (.int z4), .val (.int z5), .val (.ref b), .unset, .unset] []) ∧ Fr n0 L' ∧ n0 ≤ T'.heap.size ∧ n0 ≤ b ∧ VA Z T'.heap b .char n (fun j => .int (F j))) := by
    have hn' : n = 1 ∨ n = 2 ∨ n = 3 ∨ n = 4 ∨ n = 5 ∨ n = 6 := by omega
    rcases hn' with rfl | rfl | rfl | rfl | rfl | rfl
    · refine own_st (g1 := (mkF m 67 #[.val (.int p1), .val (.int p2), .val (.int p3), .val (.int p4), .val (.int (Int32.ofNat 1)), .val (.int z0), .val (.int z1), .val (.int z2), .val (.int z3), .val (.int z4), .val (.int z5), .unset, .unset, .unset] [(.int (Int32.ofNat 1))])) (fun zt zk => XS.iload X25.here hx rfl (hb hby at_65) rfl zk) ?_
      refine own_st (g1 := (mkF m 68 #[.val (.int p1), .val (.int p2), .val (.int p3), .val (.int p4), .val (.int (Int32.ofNat 1)), .val (.int z0), .val (.int z1), .val (.int z2), .val (.int z3), .val (.int z4), .val (.int z5), .unset, .unset, .unset] [(.int (1 : Int32)), (.int (Int32.ofNat 1))])) (fun zt zk => XS.iconst X25.here hx rfl (hb hby at_67) zk) ?_
      refine own_st (g1 := (mkF m 71 #[.val (.int p1), .val (.int p2), .val (.int p3), .val (.int p4), .val (.int (Int32.ofNat 1)), .val (.int z0), .val (.int z1), .val (.int z2), .val (.int z3), .val (.int z4), .val (.int z5), .unset, .unset, .unset] [])) (fun zt zk => XS.icmpNo X25.here hx rfl (hb hby at_68) rfl (teq (by decide)).2 zk) ?_
      refine own_st (g1 := (mkF m 72 #[.val (.int p1), .val (.int p2), .val (.int p3), .val (.int p4), .val (.int (Int32.ofNat 1)), .val (.int z0), .val (.int z1), .val (.int z2), .val (.int z3), .val (.int z4), .val (.int z5), .unset, .unset, .unset] [(.int (1 : Int32))])) (fun zt zk => XS.iconst X25.here hx rfl (hb hby at_71) zk) ?_
      obtain ⟨T26, h26, k26, X26, e26, E26, A26, st26⟩ := newP X25 hx hZ (hw _ (List.mem_of_getElem? (i := 5) rfl)) eh25 (g := (mkF m 72 #[.val (.int p1), .val (.int p2), .val (.int p3), .val (.int p4), .val (.int (Int32.ofNat 1)), .val (.int z0), .val (.int z1), .val (.int z2), .val (.int z3), .val (.int z4), .val (.int z5), .unset, .unset, .unset] [(.int (1 : Int32))])) rfl (hb hby at_72) rfl (by decide) (cap := 6) (by decide) (by decide) (by decide) (by decide)
      obtain ⟨b26, g26⟩ : ∃ z, z = h0.size := ⟨_, rfl⟩
      rw [← g26] at A26 st26
      refine own_st (g1 := (mkF m 74 #[.val (.int p1), .val (.int p2), .val (.int p3), .val (.int p4), .val (.int (Int32.ofNat 1)), .val (.int z0), .val (.int z1), .val (.int z2), .val (.int z3), .val (.int z4), .val (.int z5), .unset, .unset, .unset] [(.ref b26)])) (st26) ?_
      have U : VA Z h26 b26 .char 1 (fun _ => .int (0 : Int32)) := VA.new A26 rfl
      have gb : n0 ≤ b26 := by omega
      have Zu := Nat.le_trans Z0 E26.1
      refine own_st (g1 := (mkF m 75 #[.val (.int p1), .val (.int p2), .val (.int p3), .val (.int p4), .val (.int (Int32.ofNat 1)), .val (.int z0), .val (.int z1), .val (.int z2), .val (.int z3), .val (.int z4), .val (.int z5), .unset, .unset, .unset] [(.ref b26), (.ref b26)])) (fun zt zk => XS.dup X26.here hx rfl (hb hby at_74) rfl rfl zk) ?_
      refine own_st (g1 := (mkF m 76 #[.val (.int p1), .val (.int p2), .val (.int p3), .val (.int p4), .val (.int (Int32.ofNat 1)), .val (.int z0), .val (.int z1), .val (.int z2), .val (.int z3), .val (.int z4), .val (.int z5), .unset, .unset, .unset] [(.int (0 : Int32)), (.ref b26), (.ref b26)])) (fun zt zk => XS.iconst X26.here hx rfl (hb hby at_75) zk) ?_
      refine own_st (g1 := (mkF m 78 #[.val (.int p1), .val (.int p2), .val (.int p3), .val (.int p4), .val (.int (Int32.ofNat 1)), .val (.int z0), .val (.int z1), .val (.int z2), .val (.int z3), .val (.int z4), .val (.int z5), .unset, .unset, .unset] [(.int z0), (.int (0 : Int32)), (.ref b26), (.ref b26)])) (fun zt zk => XS.iload X26.here hx rfl (hb hby at_76) rfl zk) ?_
      obtain ⟨T27, h27, X27, e27, W27, st27⟩ := own_cst X26 hx hZ e26 U (j := 0) rfl (by decide) (by decide) (g := (mkF m 78 #[.val (.int p1), .val (.int p2), .val (.int p3), .val (.int p4), .val (.int (Int32.ofNat 1)), .val (.int z0), .val (.int z1), .val (.int z2), .val (.int z3), .val (.int z4), .val (.int z5), .unset, .unset, .unset] [(.int z0), (.int (0 : Int32)), (.ref b26), (.ref b26)])) rfl rfl (hb hby at_78)
      refine own_st (g1 := (mkF m 79 #[.val (.int p1), .val (.int p2), .val (.int p3), .val (.int p4), .val (.int (Int32.ofNat 1)), .val (.int z0), .val (.int z1), .val (.int z2), .val (.int z3), .val (.int z4), .val (.int z5), .unset, .unset, .unset] [(.ref b26)])) (st27) ?_
      have U0 := U.setI W27
      have R0 := Fr.snoc X27 M gb
      have Zw0 : n0 ≤ h27.size := by rw [Wr.size W27]; exact Zu
      refine own_st (g1 := (mkF m 81 #[.val (.int p1), .val (.int p2), .val (.int p3), .val (.int p4), .val (.int (Int32.ofNat 1)), .val (.int z0), .val (.int z1), .val (.int z2), .val (.int z3), .val (.int z4), .val (.int z5), .val (.ref b26), .unset, .unset] [])) (fun zt zk => XS.astore X27.here hx rfl (hb hby at_79) rfl rfl (l' := #[.val (.int p1), .val (.int p2), .val (.int p3), .val (.int p4), .val (.int (Int32.ofNat 1)), .val (.int z0), .val (.int z1), .val (.int z2), .val (.int z3), .val (.int z4), .val (.int z5), .val (.ref b26), .unset, .unset]) rfl zk) ?_
      refine own_st (g1 := (mkF m 246 #[.val (.int p1), .val (.int p2), .val (.int p3), .val (.int p4), .val (.int (Int32.ofNat 1)), .val (.int z0), .val (.int z1), .val (.int z2), .val (.int z3), .val (.int z4), .val (.int z5), .val (.ref b26), .unset, .unset] [])) (fun zt zk => XS.goto X27.here hx rfl (pc0 := 81) (pc' := 246) rfl (hb hby at_81) (by decide) (by decide) zk) ?_
      exact own_here X27 ⟨b26, rfl, rfl, rfl, R0, by rw [e27]; exact Zw0, gb, by rw [e27]; exact U0.congr (fun j hj => by
        have hj' : j = 0 := by omega
        subst hF
        rcases hj' with rfl <;> rfl)⟩
    · refine own_st (g1 := (mkF m 67 #[.val (.int p1), .val (.int p2), .val (.int p3), .val (.int p4), .val (.int (Int32.ofNat 2)), .val (.int z0), .val (.int z1), .val (.int z2), .val (.int z3), .val (.int z4), .val (.int z5), .unset, .unset, .unset] [(.int (Int32.ofNat 2))])) (fun zt zk => XS.iload X25.here hx rfl (hb hby at_65) rfl zk) ?_
      refine own_st (g1 := (mkF m 68 #[.val (.int p1), .val (.int p2), .val (.int p3), .val (.int p4), .val (.int (Int32.ofNat 2)), .val (.int z0), .val (.int z1), .val (.int z2), .val (.int z3), .val (.int z4), .val (.int z5), .unset, .unset, .unset] [(.int (1 : Int32)), (.int (Int32.ofNat 2))])) (fun zt zk => XS.iconst X25.here hx rfl (hb hby at_67) zk) ?_
      refine own_st (g1 := (mkF m 84 #[.val (.int p1), .val (.int p2), .val (.int p3), .val (.int p4), .val (.int (Int32.ofNat 2)), .val (.int z0), .val (.int z1), .val (.int z2), .val (.int z3), .val (.int z4), .val (.int z5), .unset, .unset, .unset] [])) (fun zt zk => XS.icmpYes X25.here hx rfl (pc0 := 68) (pc' := 84) rfl (hb hby at_68) rfl (feq (by decide)).2 (by decide) (by decide) zk) ?_
      refine own_st (g1 := (mkF m 86 #[.val (.int p1), .val (.int p2), .val (.int p3), .val (.int p4), .val (.int (Int32.ofNat 2)), .val (.int z0), .val (.int z1), .val (.int z2), .val (.int z3), .val (.int z4), .val (.int z5), .unset, .unset, .unset] [(.int (Int32.ofNat 2))])) (fun zt zk => XS.iload X25.here hx rfl (hb hby at_84) rfl zk) ?_
      refine own_st (g1 := (mkF m 87 #[.val (.int p1), .val (.int p2), .val (.int p3), .val (.int p4), .val (.int (Int32.ofNat 2)), .val (.int z0), .val (.int z1), .val (.int z2), .val (.int z3), .val (.int z4), .val (.int z5), .unset, .unset, .unset] [(.int (2 : Int32)), (.int (Int32.ofNat 2))])) (fun zt zk => XS.iconst X25.here hx rfl (hb hby at_86) zk) ?_
      refine own_st (g1 := (mkF m 90 #[.val (.int p1), .val (.int p2), .val (.int p3), .val (.int p4), .val (.int (Int32.ofNat 2)), .val (.int z0), .val (.int z1), .val (.int z2), .val (.int z3), .val (.int z4), .val (.int z5), .unset, .unset, .unset] [])) (fun zt zk => XS.icmpNo X25.here hx rfl (hb hby at_87) rfl (teq (by decide)).2 zk) ?_
      refine own_st (g1 := (mkF m 91 #[.val (.int p1), .val (.int p2), .val (.int p3), .val (.int p4), .val (.int (Int32.ofNat 2)), .val (.int z0), .val (.int z1), .val (.int z2), .val (.int z3), .val (.int z4), .val (.int z5), .unset, .unset, .unset] [(.int (2 : Int32))])) (fun zt zk => XS.iconst X25.here hx rfl (hb hby at_90) zk) ?_
      obtain ⟨T28, h28, k28, X28, e28, E28, A28, st28⟩ := newP X25 hx hZ (hw _ (List.mem_of_getElem? (i := 5) rfl)) eh25 (g := (mkF m 91 #[.val (.int p1), .val (.int p2), .val (.int p3), .val (.int p4), .val (.int (Int32.ofNat 2)), .val (.int z0), .val (.int z1), .val (.int z2), .val (.int z3), .val (.int z4), .val (.int z5), .unset, .unset, .unset] [(.int (2 : Int32))])) rfl (hb hby at_91) rfl (by decide) (cap := 6) (by decide) (by decide) (by decide) (by decide)
      obtain ⟨b28, g28⟩ : ∃ z, z = h0.size := ⟨_, rfl⟩
      rw [← g28] at A28 st28
      refine own_st (g1 := (mkF m 93 #[.val (.int p1), .val (.int p2), .val (.int p3), .val (.int p4), .val (.int (Int32.ofNat 2)), .val (.int z0), .val (.int z1), .val (.int z2), .val (.int z3), .val (.int z4), .val (.int z5), .unset, .unset, .unset] [(.ref b28)])) (st28) ?_
      have U : VA Z h28 b28 .char 2 (fun _ => .int (0 : Int32)) := VA.new A28 rfl
      have gb : n0 ≤ b28 := by omega
      have Zu := Nat.le_trans Z0 E28.1
      refine own_st (g1 := (mkF m 94 #[.val (.int p1), .val (.int p2), .val (.int p3), .val (.int p4), .val (.int (Int32.ofNat 2)), .val (.int z0), .val (.int z1), .val (.int z2), .val (.int z3), .val (.int z4), .val (.int z5), .unset, .unset, .unset] [(.ref b28), (.ref b28)])) (fun zt zk => XS.dup X28.here hx rfl (hb hby at_93) rfl rfl zk) ?_
      refine own_st (g1 := (mkF m 95 #[.val (.int p1), .val (.int p2), .val (.int p3), .val (.int p4), .val (.int (Int32.ofNat 2)), .val (.int z0), .val (.int z1), .val (.int z2), .val (.int z3), .val (.int z4), .val (.int z5), .unset, .unset, .unset] [(.int (0 : Int32)), (.ref b28), (.ref b28)])) (fun zt zk => XS.iconst X28.here hx rfl (hb hby at_94) zk) ?_
      refine own_st (g1 := (mkF m 97 #[.val (.int p1), .val (.int p2), .val (.int p3), .val (.int p4), .val (.int (Int32.ofNat 2)), .val (.int z0), .val (.int z1), .val (.int z2), .val (.int z3), .val (.int z4), .val (.int z5), .unset, .unset, .unset] [(.int z0), (.int (0 : Int32)), (.ref b28), (.ref b28)])) (fun zt zk => XS.iload X28.here hx rfl (hb hby at_95) rfl zk) ?_
      obtain ⟨T29, h29, X29, e29, W29, st29⟩ := own_cst X28 hx hZ e28 U (j := 0) rfl (by decide) (by decide) (g := (mkF m 97 #[.val (.int p1), .val (.int p2), .val (.int p3), .val (.int p4), .val (.int (Int32.ofNat 2)), .val (.int z0), .val (.int z1), .val (.int z2), .val (.int z3), .val (.int z4), .val (.int z5), .unset, .unset, .unset] [(.int z0), (.int (0 : Int32)), (.ref b28), (.ref b28)])) rfl rfl (hb hby at_97)
      refine own_st (g1 := (mkF m 98 #[.val (.int p1), .val (.int p2), .val (.int p3), .val (.int p4), .val (.int (Int32.ofNat 2)), .val (.int z0), .val (.int z1), .val (.int z2), .val (.int z3), .val (.int z4), .val (.int z5), .unset, .unset, .unset] [(.ref b28)])) (st29) ?_
      have U0 := U.setI W29
      have R0 := Fr.snoc X29 M gb
      have Zw0 : n0 ≤ h29.size := by rw [Wr.size W29]; exact Zu
      refine own_st (g1 := (mkF m 99 #[.val (.int p1), .val (.int p2), .val (.int p3), .val (.int p4), .val (.int (Int32.ofNat 2)), .val (.int z0), .val (.int z1), .val (.int z2), .val (.int z3), .val (.int z4), .val (.int z5), .unset, .unset, .unset] [(.ref b28), (.ref b28)])) (fun zt zk => XS.dup X29.here hx rfl (hb hby at_98) rfl rfl zk) ?_
      refine own_st (g1 := (mkF m 100 #[.val (.int p1), .val (.int p2), .val (.int p3), .val (.int p4), .val (.int (Int32.ofNat 2)), .val (.int z0), .val (.int z1), .val (.int z2), .val (.int z3), .val (.int z4), .val (.int z5), .unset, .unset, .unset] [(.int (1 : Int32)), (.ref b28), (.ref b28)])) (fun zt zk => XS.iconst X29.here hx rfl (hb hby at_99) zk) ?_
      refine own_st (g1 := (mkF m 102 #[.val (.int p1), .val (.int p2), .val (.int p3), .val (.int p4), .val (.int (Int32.ofNat 2)), .val (.int z0), .val (.int z1), .val (.int z2), .val (.int z3), .val (.int z4), .val (.int z5), .unset, .unset, .unset] [(.int z1), (.int (1 : Int32)), (.ref b28), (.ref b28)])) (fun zt zk => XS.iload X29.here hx rfl (hb hby at_100) rfl zk) ?_
      obtain ⟨T30, h30, X30, e30, W30, st30⟩ := own_cst X29 hx hZ e29 U0 (j := 1) rfl (by decide) (by decide) (g := (mkF m 102 #[.val (.int p1), .val (.int p2), .val (.int p3), .val (.int p4), .val (.int (Int32.ofNat 2)), .val (.int z0), .val (.int z1), .val (.int z2), .val (.int z3), .val (.int z4), .val (.int z5), .unset, .unset, .unset] [(.int z1), (.int (1 : Int32)), (.ref b28), (.ref b28)])) rfl rfl (hb hby at_102)
      refine own_st (g1 := (mkF m 103 #[.val (.int p1), .val (.int p2), .val (.int p3), .val (.int p4), .val (.int (Int32.ofNat 2)), .val (.int z0), .val (.int z1), .val (.int z2), .val (.int z3), .val (.int z4), .val (.int z5), .unset, .unset, .unset] [(.ref b28)])) (st30) ?_
      have U1 := U0.setI W30
      have R1 := Fr.snoc X30 R0 gb
      have Zw1 : n0 ≤ h30.size := by rw [Wr.size W30]; exact Zw0
      refine own_st (g1 := (mkF m 105 #[.val (.int p1), .val (.int p2), .val (.int p3), .val (.int p4), .val (.int (Int32.ofNat 2)), .val (.int z0), .val (.int z1), .val (.int z2), .val (.int z3), .val (.int z4), .val (.int z5), .val (.ref b28), .unset, .unset] [])) (fun zt zk => XS.astore X30.here hx rfl (hb hby at_103) rfl rfl (l' := #[.val (.int p1), .val (.int p2), .val (.int p3), .val (.int p4), .val (.int (Int32.ofNat 2)), .val (.int z0), .val (.int z1), .val (.int z2), .val (.int z3), .val (.int z4), .val (.int z5), .val (.ref b28), .unset, .unset]) rfl zk) ?_
      refine own_st (g1 := (mkF m 246 #[.val (.int p1), .val (.int p2), .val (.int p3), .val (.int p4), .val (.int (Int32.ofNat 2)), .val (.int z0), .val (.int z1), .val (.int z2), .val (.int z3), .val (.int z4), .val (.int z5), .val (.ref b28), .unset, .unset] [])) (fun zt zk => XS.goto X30.here hx rfl (pc0 := 105) (pc' := 246) rfl (hb hby at_105) (by decide) (by decide) zk) ?_
      exact own_here X30 ⟨b28, rfl, rfl, rfl, R1, by rw [e30]; exact Zw1, gb, by rw [e30]; exact U1.congr (fun j hj => by
        have hj' : j = 0 ∨ j = 1 := by omega
        subst hF
        rcases hj' with rfl | rfl <;> rfl)⟩
    · refine own_st (g1 := (mkF m 67 #[.val (.int p1), .val (.int p2), .val (.int p3), .val (.int p4), .val (.int (Int32.ofNat 3)), .val (.int z0), .val (.int z1), .val (.int z2), .val (.int z3), .val (.int z4), .val (.int z5), .unset, .unset, .unset] [(.int (Int32.ofNat 3))])) (fun zt zk => XS.iload X25.here hx rfl (hb hby at_65) rfl zk) ?_
      refine own_st (g1 := (mkF m 68 #[.val (.int p1), .val (.int p2), .val (.int p3), .val (.int p4), .val (.int (Int32.ofNat 3)), .val (.int z0), .val (.int z1), .val (.int z2), .val (.int z3), .val (.int z4), .val (.int z5), .unset, .unset, .unset] [(.int (1 : Int32)), (.int (Int32.ofNat 3))])) (fun zt zk => XS.iconst X25.here hx rfl (hb hby at_67) zk) ?_
      refine own_st (g1 := (mkF m 84 #[.val (.int p1), .val (.int p2), .val (.int p3), .val (.int p4), .val (.int (Int32.ofNat 3)), .val (.int z0), .val (.int z1), .val (.int z2), .val (.int z3), .val (.int z4), .val (.int z5), .unset, .unset, .unset] [])) (fun zt zk => XS.icmpYes X25.here hx rfl (pc0 := 68) (pc' := 84) rfl (hb hby at_68) rfl (feq (by decide)).2 (by decide) (by decide) zk) ?_
      refine own_st (g1 := (mkF m 86 #[.val (.int p1), .val (.int p2), .val (.int p3), .val (.int p4), .val (.int (Int32.ofNat 3)), .val (.int z0), .val (.int z1), .val (.int z2), .val (.int z3), .val (.int z4), .val (.int z5), .unset, .unset, .unset] [(.int (Int32.ofNat 3))])) (fun zt zk => XS.iload X25.here hx rfl (hb hby at_84) rfl zk) ?_
      refine own_st (g1 := (mkF m 87 #[.val (.int p1), .val (.int p2), .val (.int p3), .val (.int p4), .val (.int (Int32.ofNat 3)), .val (.int z0), .val (.int z1), .val (.int z2), .val (.int z3), .val (.int z4), .val (.int z5), .unset, .unset, .unset] [(.int (2 : Int32)), (.int (Int32.ofNat 3))])) (fun zt zk => XS.iconst X25.here hx rfl (hb hby at_86) zk) ?_
      refine own_st (g1 := (mkF m 108 #[.val (.int p1), .val (.int p2), .val (.int p3), .val (.int p4), .val (.int (Int32.ofNat 3)), .val (.int z0), .val (.int z1), .val (.int z2), .val (.int z3), .val (.int z4), .val (.int z5), .unset, .unset, .unset] [])) (fun zt zk => XS.icmpYes X25.here hx rfl (pc0 := 87) (pc' := 108) rfl (hb hby at_87) rfl (feq (by decide)).2 (by decide) (by decide) zk) ?_
      refine own_st (g1 := (mkF m 110 #[.val (.int p1), .val (.int p2), .val (.int p3), .val (.int p4), .val (.int (Int32.ofNat 3)), .val (.int z0), .val (.int z1), .val (.int z2), .val (.int z3), .val (.int z4), .val (.int z5), .unset, .unset, .unset] [(.int (Int32.ofNat 3))])) (fun zt zk => XS.iload X25.here hx rfl (hb hby at_108) rfl zk) ?_
      refine own_st (g1 := (mkF m 111 #[.val (.int p1), .val (.int p2), .val (.int p3), .val (.int p4), .val (.int (Int32.ofNat 3)), .val (.int z0), .val (.int z1), .val (.int z2), .val (.int z3), .val (.int z4), .val (.int z5), .unset, .unset, .unset] [(.int (3 : Int32)), (.int (Int32.ofNat 3))])) (fun zt zk => XS.iconst X25.here hx rfl (hb hby at_110) zk) ?_
      refine own_st (g1 := (mkF m 114 #[.val (.int p1), .val (.int p2), .val (.int p3), .val (.int p4), .val (.int (Int32.ofNat 3)), .val (.int z0), .val (.int z1), .val (.int z2), .val (.int z3), .val (.int z4), .val (.int z5), .unset, .unset, .unset] [])) (fun zt zk => XS.icmpNo X25.here hx rfl (hb hby at_111) rfl (teq (by decide)).2 zk) ?_
      refine own_st (g1 := (mkF m 115 #[.val (.int p1), .val (.int p2), .val (.int p3), .val (.int p4), .val (.int (Int32.ofNat 3)), .val (.int z0), .val (.int z1), .val (.int z2), .val (.int z3), .val (.int z4), .val (.int z5), .unset, .unset, .unset] [(.int (3 : Int32))])) (fun zt zk => XS.iconst X25.here hx rfl (hb hby at_114) zk) ?_
      obtain ⟨T31, h31, k31, X31, e31, E31, A31, st31⟩ := newP X25 hx hZ (hw _ (List.mem_of_getElem? (i := 5) rfl)) eh25 (g := (mkF m 115 #[.val (.int p1), .val (.int p2), .val (.int p3), .val (.int p4), .val (.int (Int32.ofNat 3)), .val (.int z0), .val (.int z1), .val (.int z2), .val (.int z3), .val (.int z4), .val (.int z5), .unset, .unset, .unset] [(.int (3 : Int32))])) rfl (hb hby at_115) rfl (by decide) (cap := 6) (by decide) (by decide) (by decide) (by decide)
      obtain ⟨b31, g31⟩ : ∃ z, z = h0.size := ⟨_, rfl⟩
      rw [← g31] at A31 st31
      refine own_st (g1 := (mkF m 117 #[.val (.int p1), .val (.int p2), .val (.int p3), .val (.int p4), .val (.int (Int32.ofNat 3)), .val (.int z0), .val (.int z1), .val (.int z2), .val (.int z3), .val (.int z4), .val (.int z5), .unset, .unset, .unset] [(.ref b31)])) (st31) ?_
      have U : VA Z h31 b31 .char 3 (fun _ => .int (0 : Int32)) := VA.new A31 rfl
      have gb : n0 ≤ b31 := by omega
      have Zu := Nat.le_trans Z0 E31.1
      refine own_st (g1 := (mkF m 118 #[.val (.int p1), .val (.int p2), .val (.int p3), .val (.int p4), .val (.int (Int32.ofNat 3)), .val (.int z0), .val (.int z1), .val (.int z2), .val (.int z3), .val (.int z4), .val (.int z5), .unset, .unset, .unset] [(.ref b31), (.ref b31)])) (fun zt zk => XS.dup X31.here hx rfl (hb hby at_117) rfl rfl zk) ?_
      refine own_st (g1 := (mkF m 119 #[.val (.int p1), .val (.int p2), .val (.int p3), .val (.int p4), .val (.int (Int32.ofNat 3)), .val (.int z0), .val (.int z1), .val (.int z2), .val (.int z3), .val (.int z4), .val (.int z5), .unset, .unset, .unset] [(.int (0 : Int32)), (.ref b31), (.ref b31)])) (fun zt zk => XS.iconst X31.here hx rfl (hb hby at_118) zk) ?_
      refine own_st (g1 := (mkF m 121 #[.val (.int p1), .val (.int p2), .val (.int p3), .val (.int p4), .val (.int (Int32.ofNat 3)), .val (.int z0), .val (.int z1), .val (.int z2), .val (.int z3), .val (.int z4), .val (.int z5), .unset, .unset, .unset] [(.int z0), (.int (0 : Int32)), (.ref b31), (.ref b31)])) (fun zt zk => XS.iload X31.here hx rfl (hb hby at_119) rfl zk) ?_
      obtain ⟨T32, h32, X32, e32, W32, st32⟩ := own_cst X31 hx hZ e31 U (j := 0) rfl (by decide) (by decide) (g := (mkF m 121 #[.val (.int p1), .val (.int p2), .val (.int p3), .val (.int p4), .val (.int (Int32.ofNat 3)), .val (.int z0), .val (.int z1), .val (.int z2), .val (.int z3), .val (.int z4), .val (.int z5), .unset, .unset, .unset] [(.int z0), (.int (0 : Int32)), (.ref b31), (.ref b31)])) rfl rfl (hb hby at_121)
      refine own_st (g1 := (mkF m 122 #[.val (.int p1), .val (.int p2), .val (.int p3), .val (.int p4), .val (.int (Int32.ofNat 3)), .val (.int z0), .val (.int z1), .val (.int z2), .val (.int z3), .val (.int z4), .val (.int z5), .unset, .unset, .unset] [(.ref b31)])) (st32) ?_
      have U0 := U.setI W32
      have R0 := Fr.snoc X32 M gb
      have Zw0 : n0 ≤ h32.size := by rw [Wr.size W32]; exact Zu
      refine own_st (g1 := (mkF m 123 #[.val (.int p1), .val (.int p2), .val (.int p3), .val (.int p4), .val (.int (Int32.ofNat 3)), .val (.int z0), .val (.int z1), .val (.int z2), .val (.int z3), .val (.int z4), .val (.int z5), .unset, .unset, .unset] [(.ref b31), (.ref b31)])) (fun zt zk => XS.dup X32.here hx rfl (hb hby at_122) rfl rfl zk) ?_
      refine own_st (g1 := (mkF m 124 #[.val (.int p1), .val (.int p2), .val (.int p3), .val (.int p4), .val (.int (Int32.ofNat 3)), .val (.int z0), .val (.int z1), .val (.int z2), .val (.int z3), .val (.int z4), .val (.int z5), .unset, .unset, .unset] [(.int (1 : Int32)), (.ref b31), (.ref b31)])) (fun zt zk => XS.iconst X32.here hx rfl (hb hby at_123) zk) ?_
      refine own_st (g1 := (mkF m 126 #[.val (.int p1), .val (.int p2), .val (.int p3), .val (.int p4), .val (.int (Int32.ofNat 3)), .val (.int z0), .val (.int z1), .val (.int z2), .val (.int z3), .val (.int z4), .val (.int z5), .unset, .unset, .unset] [(.int z1), (.int (1 : Int32)), (.ref b31), (.ref b31)])) (fun zt zk => XS.iload X32.here hx rfl (hb hby at_124) rfl zk) ?_
      obtain ⟨T33, h33, X33, e33, W33, st33⟩ := own_cst X32 hx hZ e32 U0 (j := 1) rfl (by decide) (by decide) (g := (mkF m 126 #[.val (.int p1), .val (.int p2), .val (.int p3), .val (.int p4), .val (.int (Int32.ofNat 3)), .val (.int z0), .val (.int z1), .val (.int z2), .val (.int z3), .val (.int z4), .val (.int z5), .unset, .unset, .unset] [(.int z1), (.int (1 : Int32)), (.ref b31), (.ref b31)])) rfl rfl (hb hby at_126)
      refine own_st (g1 := (mkF m 127 #[.val (.int p1), .val (.int p2), .val (.int p3), .val (.int p4), .val (.int (Int32.ofNat 3)), .val (.int z0), .val (.int z1), .val (.int z2), .val (.int z3), .val (.int z4), .val (.int z5), .unset, .unset, .unset] [(.ref b31)])) (st33) ?_
      have U1 := U0.setI W33
      have R1 := Fr.snoc X33 R0 gb
      have Zw1 : n0 ≤ h33.size := by rw [Wr.size W33]; exact Zw0
      refine own_st (g1 := (mkF m 128 #[.val (.int p1), .val (.int p2), .val (.int p3), .val (.int p4), .val (.int (Int32.ofNat 3)), .val (.int z0), .val (.int z1), .val (.int z2), .val (.int z3), .val (.int z4), .val (.int z5), .unset, .unset, .unset] [(.ref b31), (.ref b31)])) (fun zt zk => XS.dup X33.here hx rfl (hb hby at_127) rfl rfl zk) ?_
      refine own_st (g1 := (mkF m 129 #[.val (.int p1), .val (.int p2), .val (.int p3), .val (.int p4), .val (.int (Int32.ofNat 3)), .val (.int z0), .val (.int z1), .val (.int z2), .val (.int z3), .val (.int z4), .val (.int z5), .unset, .unset, .unset] [(.int (2 : Int32)), (.ref b31), (.ref b31)])) (fun zt zk => XS.iconst X33.here hx rfl (hb hby at_128) zk) ?_
      refine own_st (g1 := (mkF m 131 #[.val (.int p1), .val (.int p2), .val (.int p3), .val (.int p4), .val (.int (Int32.ofNat 3)), .val (.int z0), .val (.int z1), .val (.int z2), .val (.int z3), .val (.int z4), .val (.int z5), .unset, .unset, .unset] [(.int z2), (.int (2 : Int32)), (.ref b31), (.ref b31)])) (fun zt zk => XS.iload X33.here hx rfl (hb hby at_129) rfl zk) ?_
      obtain ⟨T34, h34, X34, e34, W34, st34⟩ := own_cst X33 hx hZ e33 U1 (j := 2) rfl (by decide) (by decide) (g := (mkF m 131 #[.val (.int p1), .val (.int p2), .val (.int p3), .val (.int p4), .val (.int (Int32.ofNat 3)), .val (.int z0), .val (.int z1), .val (.int z2), .val (.int z3), .val (.int z4), .val (.int z5), .unset, .unset, .unset] [(.int z2), (.int (2 : Int32)), (.ref b31), (.ref b31)])) rfl rfl (hb hby at_131)
      refine own_st (g1 := (mkF m 132 #[.val (.int p1), .val (.int p2), .val (.int p3), .val (.int p4), .val (.int (Int32.ofNat 3)), .val (.int z0), .val (.int z1), .val (.int z2), .val (.int z3), .val (.int z4), .val (.int z5), .unset, .unset, .unset] [(.ref b31)])) (st34) ?_
      have U2 := U1.setI W34
      have R2 := Fr.snoc X34 R1 gb
      have Zw2 : n0 ≤ h34.size := by rw [Wr.size W34]; exact Zw1
      refine own_st (g1 := (mkF m 134 #[.val (.int p1), .val (.int p2), .val (.int p3), .val (.int p4), .val (.int (Int32.ofNat 3)), .val (.int z0), .val (.int z1), .val (.int z2), .val (.int z3), .val (.int z4), .val (.int z5), .val (.ref b31), .unset, .unset] [])) (fun zt zk => XS.astore X34.here hx rfl (hb hby at_132) rfl rfl (l' := #[.val (.int p1), .val (.int p2), .val (.int p3), .val (.int p4), .val (.int (Int32.ofNat 3)), .val (.int z0), .val (.int z1), .val (.int z2), .val (.int z3), .val (.int z4), .val (.int z5), .val (.ref b31), .unset, .unset]) rfl zk) ?_
      refine own_st (g1 := (mkF m 246 #[.val (.int p1), .val (.int p2), .val (.int p3), .val (.int p4), .val (.int (Int32.ofNat 3)), .val (.int z0), .val (.int z1), .val (.int z2), .val (.int z3), .val (.int z4), .val (.int z5), .val (.ref b31), .unset, .unset] [])) (fun zt zk => XS.goto X34.here hx rfl (pc0 := 134) (pc' := 246) rfl (hb hby at_134) (by decide) (by decide) zk) ?_
      exact own_here X34 ⟨b31, rfl, rfl, rfl, R2, by rw [e34]; exact Zw2, gb, by rw [e34]; exact U2.congr (fun j hj => by
        have hj' : j = 0 ∨ j = 1 ∨ j = 2 := by omega
        subst hF
        rcases hj' with rfl | rfl | rfl <;> rfl)⟩
    · refine own_st (g1 := (mkF m 67 #[.val (.int p1), .val (.int p2), .val (.int p3), .val (.int p4), .val (.int (Int32.ofNat 4)), .val (.int z0), .val (.int z1), .val (.int z2), .val (.int z3), .val (.int z4), .val (.int z5), .unset, .unset, .unset] [(.int (Int32.ofNat 4))])) (fun zt zk => XS.iload X25.here hx rfl (hb hby at_65) rfl zk) ?_
      refine own_st (g1 := (mkF m 68 #[.val (.int p1), .val (.int p2), .val (.int p3), .val (.int p4), .val (.int (Int32.ofNat 4)), .val (.int z0), .val (.int z1), .val (.int z2), .val (.int z3), .val (.int z4), .val (.int z5), .unset, .unset, .unset] [(.int (1 : Int32)), (.int (Int32.ofNat 4))])) (fun zt zk => XS.iconst X25.here hx rfl (hb hby at_67) zk) ?_
      refine own_st (g1 := (mkF m 84 #[.val (.int p1), .val (.int p2), .val (.int p3), .val (.int p4), .val (.int (Int32.ofNat 4)), .val (.int z0), .val (.int z1), .val (.int z2), .val (.int z3), .val (.int z4), .val (.int z5), .unset, .unset, .unset] [])) (fun zt zk => XS.icmpYes X25.here hx rfl (pc0 := 68) (pc' := 84) rfl (hb hby at_68) rfl (feq (by decide)).2 (by decide) (by decide) zk) ?_
      refine own_st (g1 := (mkF m 86 #[.val (.int p1), .val (.int p2), .val (.int p3), .val (.int p4), .val (.int (Int32.ofNat 4)), .val (.int z0), .val (.int z1), .val (.int z2), .val (.int z3), .val (.int z4), .val (.int z5), .unset, .unset, .unset] [(.int (Int32.ofNat 4))])) (fun zt zk => XS.iload X25.here hx rfl (hb hby at_84) rfl zk) ?_
      refine own_st (g1 := (mkF m 87 #[.val (.int p1), .val (.int p2), .val (.int p3), .val (.int p4), .val (.int (Int32.ofNat 4)), .val (.int z0), .val (.int z1), .val (.int z2), .val (.int z3), .val (.int z4), .val (.int z5), .unset, .unset, .unset] [(.int (2 : Int32)), (.int (Int32.ofNat 4))])) (fun zt zk => XS.iconst X25.here hx rfl (hb hby at_86) zk) ?_
      refine own_st (g1 := (mkF m 108 #[.val (.int p1), .val (.int p2), .val (.int p3), .val (.int p4), .val (.int (Int32.ofNat 4)), .val (.int z0), .val (.int z1), .val (.int z2), .val (.int z3), .val (.int z4), .val (.int z5), .unset, .unset, .unset] [])) (fun zt zk => XS.icmpYes X25.here hx rfl (pc0 := 87) (pc' := 108) rfl (hb hby at_87) rfl (feq (by decide)).2 (by decide) (by decide) zk) ?_
      refine own_st (g1 := (mkF m 110 #[.val (.int p1), .val (.int p2), .val (.int p3), .val (.int p4), .val (.int (Int32.ofNat 4)), .val (.int z0), .val (.int z1), .val (.int z2), .val (.int z3), .val (.int z4), .val (.int z5), .unset, .unset, .unset] [(.int (Int32.ofNat 4))])) (fun zt zk => XS.iload X25.here hx rfl (hb hby at_108) rfl zk) ?_
      refine own_st (g1 := (mkF m 111 #[.val (.int p1), .val (.int p2), .val (.int p3), .val (.int p4), .val (.int (Int32.ofNat 4)), .val (.int z0), .val (.int z1), .val (.int z2), .val (.int z3), .val (.int z4), .val (.int z5), .unset, .unset, .unset] [(.int (3 : Int32)), (.int (Int32.ofNat 4))])) (fun zt zk => XS.iconst X25.here hx rfl (hb hby at_110) zk) ?_
      refine own_st (g1 := (mkF m 137 #[.val (.int p1), .val (.int p2), .val (.int p3), .val (.int p4), .val (.int (Int32.ofNat 4)), .val (.int z0), .val (.int z1), .val (.int z2), .val (.int z3), .val (.int z4), .val (.int z5), .unset, .unset, .unset] [])) (fun zt zk => XS.icmpYes X25.here hx rfl (pc0 := 111) (pc' := 137) rfl (hb hby at_111) rfl (feq (by decide)).2 (by decide) (by decide) zk) ?_
      refine own_st (g1 := (mkF m 139 #[.val (.int p1), .val (.int p2), .val (.int p3), .val (.int p4), .val (.int (Int32.ofNat 4)), .val (.int z0), .val (.int z1), .val (.int z2), .val (.int z3), .val (.int z4), .val (.int z5), .unset, .unset, .unset] [(.int (Int32.ofNat 4))])) (fun zt zk => XS.iload X25.here hx rfl (hb hby at_137) rfl zk) ?_
      refine own_st (g1 := (mkF m 140 #[.val (.int p1), .val (.int p2), .val (.int p3), .val (.int p4), .val (.int (Int32.ofNat 4)), .val (.int z0), .val (.int z1), .val (.int z2), .val (.int z3), .val (.int z4), .val (.int z5), .unset, .unset, .unset] [(.int (4 : Int32)), (.int (Int32.ofNat 4))])) (fun zt zk => XS.iconst X25.here hx rfl (hb hby at_139) zk) ?_
      refine own_st (g1 := (mkF m 143 #[.val (.int p1), .val (.int p2), .val (.int p3), .val (.int p4), .val (.int (Int32.ofNat 4)), .val (.int z0), .val (.int z1), .val (.int z2), .val (.int z3), .val (.int z4), .val (.int z5), .unset, .unset, .unset] [])) (fun zt zk => XS.icmpNo X25.here hx rfl (hb hby at_140) rfl (teq (by decide)).2 zk) ?_
      refine own_st (g1 := (mkF m 144 #[.val (.int p1), .val (.int p2), .val (.int p3), .val (.int p4), .val (.int (Int32.ofNat 4)), .val (.int z0), .val (.int z1), .val (.int z2), .val (.int z3), .val (.int z4), .val (.int z5), .unset, .unset, .unset] [(.int (4 : Int32))])) (fun zt zk => XS.iconst X25.here hx rfl (hb hby at_143) zk) ?_
      obtain ⟨T35, h35, k35, X35, e35, E35, A35, st35⟩ := newP X25 hx hZ (hw _ (List.mem_of_getElem? (i := 5) rfl)) eh25 (g := (mkF m 144 #[.val (.int p1), .val (.int p2), .val (.int p3), .val (.int p4), .val (.int (Int32.ofNat 4)), .val (.int z0), .val (.int z1), .val (.int z2), .val (.int z3), .val (.int z4), .val (.int z5), .unset, .unset, .unset] [(.int (4 : Int32))])) rfl (hb hby at_144) rfl (by decide) (cap := 6) (by decide) (by decide) (by decide) (by decide)
      obtain ⟨b35, g35⟩ : ∃ z, z = h0.size := ⟨_, rfl⟩
      rw [← g35] at A35 st35
      refine own_st (g1 := (mkF m 146 #[.val (.int p1), .val (.int p2), .val (.int p3), .val (.int p4), .val (.int (Int32.ofNat 4)), .val (.int z0), .val (.int z1), .val (.int z2), .val (.int z3), .val (.int z4), .val (.int z5), .unset, .unset, .unset] [(.ref b35)])) (st35) ?_
      have U : VA Z h35 b35 .char 4 (fun _ => .int (0 : Int32)) := VA.new A35 rfl
      have gb : n0 ≤ b35 := by omega
      have Zu := Nat.le_trans Z0 E35.1
      refine own_st (g1 := (mkF m 147 #[.val (.int p1), .val (.int p2), .val (.int p3), .val (.int p4), .val (.int (Int32.ofNat 4)), .val (.int z0), .val (.int z1), .val (.int z2), .val (.int z3), .val (.int z4), .val (.int z5), .unset, .unset, .unset] [(.ref b35), (.ref b35)])) (fun zt zk => XS.dup X35.here hx rfl (hb hby at_146) rfl rfl zk) ?_
      refine own_st (g1 := (mkF m 148 #[.val (.int p1), .val (.int p2), .val (.int p3), .val (.int p4), .val (.int (Int32.ofNat 4)), .val (.int z0), .val (.int z1), .val (.int z2), .val (.int z3), .val (.int z4), .val (.int z5), .unset, .unset, .unset] [(.int (0 : Int32)), (.ref b35), (.ref b35)])) (fun zt zk => XS.iconst X35.here hx rfl (hb hby at_147) zk) ?_
      refine own_st (g1 := (mkF m 150 #[.val (.int p1), .val (.int p2), .val (.int p3), .val (.int p4), .val (.int (Int32.ofNat 4)), .val (.int z0), .val (.int z1), .val (.int z2), .val (.int z3), .val (.int z4), .val (.int z5), .unset, .unset, .unset] [(.int z0), (.int (0 : Int32)), (.ref b35), (.ref b35)])) (fun zt zk => XS.iload X35.here hx rfl (hb hby at_148) rfl zk) ?_
      obtain ⟨T36, h36, X36, e36, W36, st36⟩ := own_cst X35 hx hZ e35 U (j := 0) rfl (by decide) (by decide) (g := (mkF m 150 #[.val (.int p1), .val (.int p2), .val (.int p3), .val (.int p4), .val (.int (Int32.ofNat 4)), .val (.int z0), .val (.int z1), .val (.int z2), .val (.int z3), .val (.int z4), .val (.int z5), .unset, .unset, .unset] [(.int z0), (.int (0 : Int32)), (.ref b35), (.ref b35)])) rfl rfl (hb hby at_150)
      refine own_st (g1 := (mkF m 151 #[.val (.int p1), .val (.int p2), .val (.int p3), .val (.int p4), .val (.int (Int32.ofNat 4)), .val (.int z0), .val (.int z1), .val (.int z2), .val (.int z3), .val (.int z4), .val (.int z5), .unset, .unset, .unset] [(.ref b35)])) (st36) ?_
      have U0 := U.setI W36
      have R0 := Fr.snoc X36 M gb
      have Zw0 : n0 ≤ h36.size := by rw [Wr.size W36]; exact Zu
      refine own_st (g1 := (mkF m 152 #[.val (.int p1), .val (.int p2), .val (.int p3), .val (.int p4), .val (.int (Int32.ofNat 4)), .val (.int z0), .val (.int z1), .val (.int z2), .val (.int z3), .val (.int z4), .val (.int z5), .unset, .unset, .unset] [(.ref b35), (.ref b35)])) (fun zt zk => XS.dup X36.here hx rfl (hb hby at_151) rfl rfl zk) ?_
      refine own_st (g1 := (mkF m 153 #[.val (.int p1), .val (.int p2), .val (.int p3), .val (.int p4), .val (.int (Int32.ofNat 4)), .val (.int z0), .val (.int z1), .val (.int z2), .val (.int z3), .val (.int z4), .val (.int z5), .unset, .unset, .unset] [(.int (1 : Int32)), (.ref b35), (.ref b35)])) (fun zt zk => XS.iconst X36.here hx rfl (hb hby at_152) zk) ?_
      refine own_st (g1 := (mkF m 155 #[.val (.int p1), .val (.int p2), .val (.int p3), .val (.int p4), .val (.int (Int32.ofNat 4)), .val (.int z0), .val (.int z1), .val (.int z2), .val (.int z3), .val (.int z4), .val (.int z5), .unset, .unset, .unset] [(.int z1), (.int (1 : Int32)), (.ref b35), (.ref b35)])) (fun zt zk => XS.iload X36.here hx rfl (hb hby at_153) rfl zk) ?_
      obtain ⟨T37, h37, X37, e37, W37, st37⟩ := own_cst X36 hx hZ e36 U0 (j := 1) rfl (by decide) (by decide) (g := (mkF m 155 #[.val (.int p1), .val (.int p2), .val (.int p3), .val (.int p4), .val (.int (Int32.ofNat 4)), .val (.int z0), .val (.int z1), .val (.int z2), .val (.int z3), .val (.int z4), .val (.int z5), .unset, .unset, .unset] [(.int z1), (.int (1 : Int32)), (.ref b35), (.ref b35)])) rfl rfl (hb hby at_155)
      refine own_st (g1 := (mkF m 156 #[.val (.int p1), .val (.int p2), .val (.int p3), .val (.int p4), .val (.int (Int32.ofNat 4)), .val (.int z0), .val (.int z1), .val (.int z2), .val (.int z3), .val (.int z4), .val (.int z5), .unset, .unset, .unset] [(.ref b35)])) (st37) ?_
      have U1 := U0.setI W37
      have R1 := Fr.snoc X37 R0 gb
      have Zw1 : n0 ≤ h37.size := by rw [Wr.size W37]; exact Zw0
      refine own_st (g1 := (mkF m 157 #[.val (.int p1), .val (.int p2), .val (.int p3), .val (.int p4), .val (.int (Int32.ofNat 4)), .val (.int z0), .val (.int z1), .val (.int z2), .val (.int z3), .val (.int z4), .val (.int z5), .unset, .unset, .unset] [(.ref b35), (.ref b35)])) (fun zt zk => XS.dup X37.here hx rfl (hb hby at_156) rfl rfl zk) ?_
      refine own_st (g1 := (mkF m 158 #[.val (.int p1), .val (.int p2), .val (.int p3), .val (.int p4), .val (.int (Int32.ofNat 4)), .val (.int z0), .val (.int z1), .val (.int z2), .val (.int z3), .val (.int z4), .val (.int z5), .unset, .unset, .unset] [(.int (2 : Int32)), (.ref b35), (.ref b35)])) (fun zt zk => XS.iconst X37.here hx rfl (hb hby at_157) zk) ?_
      refine own_st (g1 := (mkF m 160 #[.val (.int p1), .val (.int p2), .val (.int p3), .val (.int p4), .val (.int (Int32.ofNat 4)), .val (.int z0), .val (.int z1), .val (.int z2), .val (.int z3), .val (.int z4), .val (.int z5), .unset, .unset, .unset] [(.int z2), (.int (2 : Int32)), (.ref b35), (.ref b35)])) (fun zt zk => XS.iload X37.here hx rfl (hb hby at_158) rfl zk) ?_
      obtain ⟨T38, h38, X38, e38, W38, st38⟩ := own_cst X37 hx hZ e37 U1 (j := 2) rfl (by decide) (by decide) (g := (mkF m 160 #[.val (.int p1), .val (.int p2), .val (.int p3), .val (.int p4), .val (.int (Int32.ofNat 4)), .val (.int z0), .val (.int z1), .val (.int z2), .val (.int z3), .val (.int z4), .val (.int z5), .unset, .unset, .unset] [(.int z2), (.int (2 : Int32)), (.ref b35), (.ref b35)])) rfl rfl (hb hby at_160)
      refine own_st (g1 := (mkF m 161 #[.val (.int p1), .val (.int p2), .val (.int p3), .val (.int p4), .val (.int (Int32.ofNat 4)), .val (.int z0), .val (.int z1), .val (.int z2), .val (.int z3), .val (.int z4), .val (.int z5), .unset, .unset, .unset] [(.ref b35)])) (st38) ?_
      have U2 := U1.setI W38
      have R2 := Fr.snoc X38 R1 gb
      have Zw2 : n0 ≤ h38.size := by rw [Wr.size W38]; exact Zw1
      refine own_st (g1 := (mkF m 162 #[.val (.int p1), .val (.int p2), .val (.int p3), .val (.int p4), .val (.int (Int32.ofNat 4)), .val (.int z0), .val (.int z1), .val (.int z2), .val (.int z3), .val (.int z4), .val (.int z5), .unset, .unset, .unset] [(.ref b35), (.ref b35)])) (fun zt zk => XS.dup X38.here hx rfl (hb hby at_161) rfl rfl zk) ?_
      refine own_st (g1 := (mkF m 163 #[.val (.int p1), .val (.int p2), .val (.int p3), .val (.int p4), .val (.int (Int32.ofNat 4)), .val (.int z0), .val (.int z1), .val (.int z2), .val (.int z3), .val (.int z4), .val (.int z5), .unset, .unset, .unset] [(.int (3 : Int32)), (.ref b35), (.ref b35)])) (fun zt zk => XS.iconst X38.here hx rfl (hb hby at_162) zk) ?_
      refine own_st (g1 := (mkF m 165 #[.val (.int p1), .val (.int p2), .val (.int p3), .val (.int p4), .val (.int (Int32.ofNat 4)), .val (.int z0), .val (.int z1), .val (.int z2), .val (.int z3), .val (.int z4), .val (.int z5), .unset, .unset, .unset] [(.int z3), (.int (3 : Int32)), (.ref b35), (.ref b35)])) (fun zt zk => XS.iload X38.here hx rfl (hb hby at_163) rfl zk) ?_
      obtain ⟨T39, h39, X39, e39, W39, st39⟩ := own_cst X38 hx hZ e38 U2 (j := 3) rfl (by decide) (by decide) (g := (mkF m 165 #[.val (.int p1), .val (.int p2), .val (.int p3), .val (.int p4), .val (.int (Int32.ofNat 4)), .val (.int z0), .val (.int z1), .val (.int z2), .val (.int z3), .val (.int z4), .val (.int z5), .unset, .unset, .unset] [(.int z3), (.int (3 : Int32)), (.ref b35), (.ref b35)])) rfl rfl (hb hby at_165)
      refine own_st (g1 := (mkF m 166 #[.val (.int p1), .val (.int p2), .val (.int p3), .val (.int p4), .val (.int (Int32.ofNat 4)), .val (.int z0), .val (.int z1), .val (.int z2), .val (.int z3), .val (.int z4), .val (.int z5), .unset, .unset, .unset] [(.ref b35)])) (st39) ?_
      have U3 := U2.setI W39
      have R3 := Fr.snoc X39 R2 gb
      have Zw3 : n0 ≤ h39.size := by rw [Wr.size W39]; exact Zw2
      refine own_st (g1 := (mkF m 168 #[.val (.int p1), .val (.int p2), .val (.int p3), .val (.int p4), .val (.int (Int32.ofNat 4)), .val (.int z0), .val (.int z1), .val (.int z2), .val (.int z3), .val (.int z4), .val (.int z5), .val (.ref b35), .unset, .unset] [])) (fun zt zk => XS.astore X39.here hx rfl (hb hby at_166) rfl rfl (l' := #[.val (.int p1), .val (.int p2), .val (.int p3), .val (.int p4), .val (.int (Int32.ofNat 4)), .val (.int z0), .val (.int z1), .val (.int z2), .val (.int z3), .val (.int z4), .val (.int z5), .val (.ref b35), .unset, .unset]) rfl zk) ?_
      refine own_st (g1 := (mkF m 246 #[.val (.int p1), .val (.int p2), .val (.int p3), .val (.int p4), .val (.int (Int32.ofNat 4)), .val (.int z0), .val (.int z1), .val (.int z2), .val (.int z3), .val (.int z4), .val (.int z5), .val (.ref b35), .unset, .unset] [])) (fun zt zk => XS.goto X39.here hx rfl (pc0 := 168) (pc' := 246) rfl (hb hby at_168) (by decide) (by decide) zk) ?_
      exact own_here X39 ⟨b35, rfl, rfl, rfl, R3, by rw [e39]; exact Zw3, gb, by rw [e39]; exact U3.congr (fun j hj => by
        have hj' : j = 0 ∨ j = 1 ∨ j = 2 ∨ j = 3 := by omega
        subst hF
        rcases hj' with rfl | rfl | rfl | rfl <;> rfl)⟩
    · refine own_st (g1 := (mkF m 67 #[.val (.int p1), .val (.int p2), .val (.int p3), .val (.int p4), .val (.int (Int32.ofNat 5)), .val (.int z0), .val (.int z1), .val (.int z2), .val (.int z3), .val (.int z4), .val (.int z5), .unset, .unset, .unset] [(.int (Int32.ofNat 5))])) (fun zt zk => XS.iload X25.here hx rfl (hb hby at_65) rfl zk) ?_
      refine own_st (g1 := (mkF m 68 #[.val (.int p1), .val (.int p2), .val (.int p3), .val (.int p4), .val (.int (Int32.ofNat 5)), .val (.int z0), .val (.int z1), .val (.int z2), .val (.int z3), .val (.int z4), .val (.int z5), .unset, .unset, .unset] [(.int (1 : Int32)), (.int (Int32.ofNat 5))])) (fun zt zk => XS.iconst X25.here hx rfl (hb hby at_67) zk) ?_
      refine own_st (g1 := (mkF m 84 #[.val (.int p1), .val (.int p2), .val (.int p3), .val (.int p4), .val (.int (Int32.ofNat 5)), .val (.int z0), .val (.int z1), .val (.int z2), .val (.int z3), .val (.int z4), .val (.int z5), .unset, .unset, .unset] [])) (fun zt zk => XS.icmpYes X25.here hx rfl (pc0 := 68) (pc' := 84) rfl (hb hby at_68) rfl (feq (by decide)).2 (by decide) (by decide) zk) ?_
      refine own_st (g1 := (mkF m 86 #[.val (.int p1), .val (.int p2), .val (.int p3), .val (.int p4), .val (.int (Int32.ofNat 5)), .val (.int z0), .val (.int z1), .val (.int z2), .val (.int z3), .val (.int z4), .val (.int z5), .unset, .unset, .unset] [(.int (Int32.ofNat 5))])) (fun zt zk => XS.iload X25.here hx rfl (hb hby at_84) rfl zk) ?_
      refine own_st (g1 := (mkF m 87 #[.val (.int p1), .val (.int p2), .val (.int p3), .val (.int p4), .val (.int (Int32.ofNat 5)), .val (.int z0), .val (.int z1), .val (.int z2), .val (.int z3), .val (.int z4), .val (.int z5), .unset, .unset, .unset] [(.int (2 : Int32)), (.int (Int32.ofNat 5))])) (fun zt zk => XS.iconst X25.here hx rfl (hb hby at_86) zk) ?_
      refine own_st (g1 := (mkF m 108 #[.val (.int p1), .val (.int p2), .val (.int p3), .val (.int p4), .val (.int (Int32.ofNat 5)), .val (.int z0), .val (.int z1), .val (.int z2), .val (.int z3), .val (.int z4), .val (.int z5), .unset, .unset, .unset] [])) (fun zt zk => XS.icmpYes X25.here hx rfl (pc0 := 87) (pc' := 108) rfl (hb hby at_87) rfl (feq (by decide)).2 (by decide) (by decide) zk) ?_
      refine own_st (g1 := (mkF m 110 #[.val (.int p1), .val (.int p2), .val (.int p3), .val (.int p4), .val (.int (Int32.ofNat 5)), .val (.int z0), .val (.int z1), .val (.int z2), .val (.int z3), .val (.int z4), .val (.int z5), .unset, .unset, .unset] [(.int (Int32.ofNat 5))])) (fun zt zk => XS.iload X25.here hx rfl (hb hby at_108) rfl zk) ?_
      refine own_st (g1 := (mkF m 111 #[.val (.int p1), .val (.int p2), .val (.int p3), .val (.int p4), .val (.int (Int32.ofNat 5)), .val (.int z0), .val (.int z1), .val (.int z2), .val (.int z3), .val (.int z4), .val (.int z5), .unset, .unset, .unset] [(.int (3 : Int32)), (.int (Int32.ofNat 5))])) (fun zt zk => XS.iconst X25.here hx rfl (hb hby at_110) zk) ?_
      refine own_st (g1 := (mkF m 137 #[.val (.int p1), .val (.int p2), .val (.int p3), .val (.int p4), .val (.int (Int32.ofNat 5)), .val (.int z0), .val (.int z1), .val (.int z2), .val (.int z3), .val (.int z4), .val (.int z5), .unset, .unset, .unset] [])) (fun zt zk => XS.icmpYes X25.here hx rfl (pc0 := 111) (pc' := 137) rfl (hb hby at_111) rfl (feq (by decide)).2 (by decide) (by decide) zk) ?_
      refine own_st (g1 := (mkF m 139 #[.val (.int p1), .val (.int p2), .val (.int p3), .val (.int p4), .val (.int (Int32.ofNat 5)), .val (.int z0), .val (.int z1), .val (.int z2), .val (.int z3), .val (.int z4), .val (.int z5), .unset, .unset, .unset] [(.int (Int32.ofNat 5))])) (fun zt zk => XS.iload X25.here hx rfl (hb hby at_137) rfl zk) ?_
      refine own_st (g1 := (mkF m 140 #[.val (.int p1), .val (.int p2), .val (.int p3), .val (.int p4), .val (.int (Int32.ofNat 5)), .val (.int z0), .val (.int z1), .val (.int z2), .val (.int z3), .val (.int z4), .val (.int z5), .unset, .unset, .unset] [(.int (4 : Int32)), (.int (Int32.ofNat 5))])) (fun zt zk => XS.iconst X25.here hx rfl (hb hby at_139) zk) ?_
      refine own_st (g1 := (mkF m 171 #[.val (.int p1), .val (.int p2), .val (.int p3), .val (.int p4), .val (.int (Int32.ofNat 5)), .val (.int z0), .val (.int z1), .val (.int z2), .val (.int z3), .val (.int z4), .val (.int z5), .unset, .unset, .unset] [])) (fun zt zk => XS.icmpYes X25.here hx rfl (pc0 := 140) (pc' := 171) rfl (hb hby at_140) rfl (feq (by decide)).2 (by decide) (by decide) zk) ?_
      refine own_st (g1 := (mkF m 173 #[.val (.int p1), .val (.int p2), .val (.int p3), .val (.int p4), .val (.int (Int32.ofNat 5)), .val (.int z0), .val (.int z1), .val (.int z2), .val (.int z3), .val (.int z4), .val (.int z5), .unset, .unset, .unset] [(.int (Int32.ofNat 5))])) (fun zt zk => XS.iload X25.here hx rfl (hb hby at_171) rfl zk) ?_
      refine own_st (g1 := (mkF m 174 #[.val (.int p1), .val (.int p2), .val (.int p3), .val (.int p4), .val (.int (Int32.ofNat 5)), .val (.int z0), .val (.int z1), .val (.int z2), .val (.int z3), .val (.int z4), .val (.int z5), .unset, .unset, .unset] [(.int (5 : Int32)), (.int (Int32.ofNat 5))])) (fun zt zk => XS.iconst X25.here hx rfl (hb hby at_173) zk) ?_
      refine own_st (g1 := (mkF m 177 #[.val (.int p1), .val (.int p2), .val (.int p3), .val (.int p4), .val (.int (Int32.ofNat 5)), .val (.int z0), .val (.int z1), .val (.int z2), .val (.int z3), .val (.int z4), .val (.int z5), .unset, .unset, .unset] [])) (fun zt zk => XS.icmpNo X25.here hx rfl (hb hby at_174) rfl (teq (by decide)).2 zk) ?_
      refine own_st (g1 := (mkF m 178 #[.val (.int p1), .val (.int p2), .val (.int p3), .val (.int p4), .val (.int (Int32.ofNat 5)), .val (.int z0), .val (.int z1), .val (.int z2), .val (.int z3), .val (.int z4), .val (.int z5), .unset, .unset, .unset] [(.int (5 : Int32))])) (fun zt zk => XS.iconst X25.here hx rfl (hb hby at_177) zk) ?_
      obtain ⟨T40, h40, k40, X40, e40, E40, A40, st40⟩ := newP X25 hx hZ (hw _ (List.mem_of_getElem? (i := 5) rfl)) eh25 (g := (mkF m 178 #[.val (.int p1), .val (.int p2), .val (.int p3), .val (.int p4), .val (.int (Int32.ofNat 5)), .val (.int z0), .val (.int z1), .val (.int z2), .val (.int z3), .val (.int z4), .val (.int z5), .unset, .unset, .unset] [(.int (5 : Int32))])) rfl (hb hby at_178) rfl (by decide) (cap := 6) (by decide) (by decide) (by decide) (by decide)
      obtain ⟨b40, g40⟩ : ∃ z, z = h0.size := ⟨_, rfl⟩
      rw [← g40] at A40 st40
      refine own_st (g1 := (mkF m 180 #[.val (.int p1), .val (.int p2), .val (.int p3), .val (.int p4), .val (.int (Int32.ofNat 5)), .val (.int z0), .val (.int z1), .val (.int z2), .val (.int z3), .val (.int z4), .val (.int z5), .unset, .unset, .unset] [(.ref b40)])) (st40) ?_
      have U : VA Z h40 b40 .char 5 (fun _ => .int (0 : Int32)) := VA.new A40 rfl
      have gb : n0 ≤ b40 := by omega
      have Zu := Nat.le_trans Z0 E40.1
      refine own_st (g1 := (mkF m 181 #[.val (.int p1), .val (.int p2), .val (.int p3), .val (.int p4), .val (.int (Int32.ofNat 5)), .val (.int z0), .val (.int z1), .val (.int z2), .val (.int z3), .val (.int z4), .val (.int z5), .unset, .unset, .unset] [(.ref b40), (.ref b40)])) (fun zt zk => XS.dup X40.here hx rfl (hb hby at_180) rfl rfl zk) ?_
      refine own_st (g1 := (mkF m 182 #[.val (.int p1), .val (.int p2), .val (.int p3), .val (.int p4), .val (.int (Int32.ofNat 5)), .val (.int z0), .val (.int z1), .val (.int z2), .val (.int z3), .val (.int z4), .val (.int z5), .unset, .unset, .unset] [(.int (0 : Int32)), (.ref b40), (.ref b40)])) (fun zt zk => XS.iconst X40.here hx rfl (hb hby at_181) zk) ?_
      refine own_st (g1 := (mkF m 184 #[.val (.int p1), .val (.int p2), .val (.int p3), .val (.int p4), .val (.int (Int32.ofNat 5)), .val (.int z0), .val (.int z1), .val (.int z2), .val (.int z3), .val (.int z4), .val (.int z5), .unset, .unset, .unset] [(.int z0), (.int (0 : Int32)), (.ref b40), (.ref b40)])) (fun zt zk => XS.iload X40.here hx rfl (hb hby at_182) rfl zk) ?_
      obtain ⟨T41, h41, X41, e41, W41, st41⟩ := own_cst X40 hx hZ e40 U (j := 0) rfl (by decide) (by decide) (g := (mkF m 184 #[.val (.int p1), .val (.int p2), .val (.int p3), .val (.int p4), .val (.int (Int32.ofNat 5)), .val (.int z0), .val (.int z1), .val (.int z2), .val (.int z3), .val (.int z4), .val (.int z5), .unset, .unset, .unset] [(.int z0), (.int (0 : Int32)), (.ref b40), (.ref b40)])) rfl rfl (hb hby at_184)
      refine own_st (g1 := (mkF m 185 #[.val (.int p1), .val (.int p2), .val (.int p3), .val (.int p4), .val (.int (Int32.ofNat 5)), .val (.int z0), .val (.int z1), .val (.int z2), .val (.int z3), .val (.int z4), .val (.int z5), .unset, .unset, .unset] [(.ref b40)])) (st41) ?_
      have U0 := U.setI W41
      have R0 := Fr.snoc X41 M gb
      have Zw0 : n0 ≤ h41.size := by rw [Wr.size W41]; exact Zu
      refine own_st (g1 := (mkF m 186 #[.val (.int p1), .val (.int p2), .val (.int p3), .val (.int p4), .val (.int (Int32.ofNat 5)), .val (.int z0), .val (.int z1), .val (.int z2), .val (.int z3), .val (.int z4), .val (.int z5), .unset, .unset, .unset] [(.ref b40), (.ref b40)])) (fun zt zk => XS.dup X41.here hx rfl (hb hby at_185) rfl rfl zk) ?_
      refine own_st (g1 := (mkF m 187 #[.val (.int p1), .val (.int p2), .val (.int p3), .val (.int p4), .val (.int (Int32.ofNat 5)), .val (.int z0), .val (.int z1), .val (.int z2), .val (.int z3), .val (.int z4), .val (.int z5), .unset, .unset, .unset] [(.int (1 : Int32)), (.ref b40), (.ref b40)])) (fun zt zk => XS.iconst X41.here hx rfl (hb hby at_186) zk) ?_
      refine own_st (g1 := (mkF m 189 #[.val (.int p1), .val (.int p2), .val (.int p3), .val (.int p4), .val (.int (Int32.ofNat 5)), .val (.int z0), .val (.int z1), .val (.int z2), .val (.int z3), .val (.int z4), .val (.int z5), .unset, .unset, .unset] [(.int z1), (.int (1 : Int32)), (.ref b40), (.ref b40)])) (fun zt zk => XS.iload X41.here hx rfl (hb hby at_187) rfl zk) ?_
      obtain ⟨T42, h42, X42, e42, W42, st42⟩ := own_cst X41 hx hZ e41 U0 (j := 1) rfl (by decide) (by decide) (g := (mkF m 189 #[.val (.int p1), .val (.int p2), .val (.int p3), .val (.int p4), .val (.int (Int32.ofNat 5)), .val (.int z0), .val (.int z1), .val (.int z2), .val (.int z3), .val (.int z4), .val (.int z5), .unset, .unset, .unset] [(.int z1), (.int (1 : Int32)), (.ref b40), (.ref b40)])) rfl rfl (hb hby at_189)
      refine own_st (g1 := (mkF m 190 #[.val (.int p1), .val (.int p2), .val (.int p3), .val (.int p4), .val (.int (Int32.ofNat 5)), .val (.int z0), .val (.int z1), .val (.int z2), .val (.int z3), .val (.int z4), .val (.int z5), .unset, .unset, .unset] [(.ref b40)])) (st42) ?_
      have U1 := U0.setI W42
      have R1 := Fr.snoc X42 R0 gb
      have Zw1 : n0 ≤ h42.size := by rw [Wr.size W42]; exact Zw0
      refine own_st (g1 := (mkF m 191 #[.val (.int p1), .val (.int p2), .val (.int p3), .val (.int p4), .val (.int (Int32.ofNat 5)), .val (.int z0), .val (.int z1), .val (.int z2), .val (.int z3), .val (.int z4), .val (.int z5), .unset, .unset, .unset] [(.ref b40), (.ref b40)])) (fun zt zk => XS.dup X42.here hx rfl (hb hby at_190) rfl rfl zk) ?_
      refine own_st (g1 := (mkF m 192 #[.val (.int p1), .val (.int p2), .val (.int p3), .val (.int p4), .val (.int (Int32.ofNat 5)), .val (.int z0), .val (.int z1), .val (.int z2), .val (.int z3), .val (.int z4), .val (.int z5), .unset, .unset, .unset] [(.int (2 : Int32)), (.ref b40), (.ref b40)])) (fun zt zk => XS.iconst X42.here hx rfl (hb hby at_191) zk) ?_
      refine own_st (g1 := (mkF m 194 #[.val (.int p1), .val (.int p2), .val (.int p3), .val (.int p4), .val (.int (Int32.ofNat 5)), .val (.int z0), .val (.int z1), .val (.int z2), .val (.int z3), .val (.int z4), .val (.int z5), .unset, .unset, .unset] [(.int z2), (.int (2 : Int32)), (.ref b40), (.ref b40)])) (fun zt zk => XS.iload X42.here hx rfl (hb hby at_192) rfl zk) ?_
      obtain ⟨T43, h43, X43, e43, W43, st43⟩ := own_cst X42 hx hZ e42 U1 (j := 2) rfl (by decide) (by decide) (g := (mkF m 194 #[.val (.int p1), .val (.int p2), .val (.int p3), .val (.int p4), .val (.int (Int32.ofNat 5)), .val (.int z0), .val (.int z1), .val (.int z2), .val (.int z3), .val (.int z4), .val (.int z5), .unset, .unset, .unset] [(.int z2), (.int (2 : Int32)), (.ref b40), (.ref b40)])) rfl rfl (hb hby at_194)
      refine own_st (g1 := (mkF m 195 #[.val (.int p1), .val (.int p2), .val (.int p3), .val (.int p4), .val (.int (Int32.ofNat 5)), .val (.int z0), .val (.int z1), .val (.int z2), .val (.int z3), .val (.int z4), .val (.int z5), .unset, .unset, .unset] [(.ref b40)])) (st43) ?_
      have U2 := U1.setI W43
      have R2 := Fr.snoc X43 R1 gb
      have Zw2 : n0 ≤ h43.size := by rw [Wr.size W43]; exact Zw1
      refine own_st (g1 := (mkF m 196 #[.val (.int p1), .val (.int p2), .val (.int p3), .val (.int p4), .val (.int (Int32.ofNat 5)), .val (.int z0), .val (.int z1), .val (.int z2), .val (.int z3), .val (.int z4), .val (.int z5), .unset, .unset, .unset] [(.ref b40), (.ref b40)])) (fun zt zk => XS.dup X43.here hx rfl (hb hby at_195) rfl rfl zk) ?_
      refine own_st (g1 := (mkF m 197 #[.val (.int p1), .val (.int p2), .val (.int p3), .val (.int p4), .val (.int (Int32.ofNat 5)), .val (.int z0), .val (.int z1), .val (.int z2), .val (.int z3), .val (.int z4), .val (.int z5), .unset, .unset, .unset] [(.int (3 : Int32)), (.ref b40), (.ref b40)])) (fun zt zk => XS.iconst X43.here hx rfl (hb hby at_196) zk) ?_
      refine own_st (g1 := (mkF m 199 #[.val (.int p1), .val (.int p2), .val (.int p3), .val (.int p4), .val (.int (Int32.ofNat 5)), .val (.int z0), .val (.int z1), .val (.int z2), .val (.int z3), .val (.int z4), .val (.int z5), .unset, .unset, .unset] [(.int z3), (.int (3 : Int32)), (.ref b40), (.ref b40)])) (fun zt zk => XS.iload X43.here hx rfl (hb hby at_197) rfl zk) ?_
      obtain ⟨T44, h44, X44, e44, W44, st44⟩ := own_cst X43 hx hZ e43 U2 (j := 3) rfl (by decide) (by decide) (g := (mkF m 199 #[.val (.int p1), .val (.int p2), .val (.int p3), .val (.int p4), .val (.int (Int32.ofNat 5)), .val (.int z0), .val (.int z1), .val (.int z2), .val (.int z3), .val (.int z4), .val (.int z5), .unset, .unset, .unset] [(.int z3), (.int (3 : Int32)), (.ref b40), (.ref b40)])) rfl rfl (hb hby at_199)
      refine own_st (g1 := (mkF m 200 #[.val (.int p1), .val (.int p2), .val (.int p3), .val (.int p4), .val (.int (Int32.ofNat 5)), .val (.int z0), .val (.int z1), .val (.int z2), .val (.int z3), .val (.int z4), .val (.int z5), .unset, .unset, .unset] [(.ref b40)])) (st44) ?_
      have U3 := U2.setI W44
      have R3 := Fr.snoc X44 R2 gb
      have Zw3 : n0 ≤ h44.size := by rw [Wr.size W44]; exact Zw2
      refine own_st (g1 := (mkF m 201 #[.val (.int p1), .val (.int p2), .val (.int p3), .val (.int p4), .val (.int (Int32.ofNat 5)), .val (.int z0), .val (.int z1), .val (.int z2), .val (.int z3), .val (.int z4), .val (.int z5), .unset, .unset, .unset] [(.ref b40), (.ref b40)])) (fun zt zk => XS.dup X44.here hx rfl (hb hby at_200) rfl rfl zk) ?_
      refine own_st (g1 := (mkF m 202 #[.val (.int p1), .val (.int p2), .val (.int p3), .val (.int p4), .val (.int (Int32.ofNat 5)), .val (.int z0), .val (.int z1), .val (.int z2), .val (.int z3), .val (.int z4), .val (.int z5), .unset, .unset, .unset] [(.int (4 : Int32)), (.ref b40), (.ref b40)])) (fun zt zk => XS.iconst X44.here hx rfl (hb hby at_201) zk) ?_
      refine own_st (g1 := (mkF m 204 #[.val (.int p1), .val (.int p2), .val (.int p3), .val (.int p4), .val (.int (Int32.ofNat 5)), .val (.int z0), .val (.int z1), .val (.int z2), .val (.int z3), .val (.int z4), .val (.int z5), .unset, .unset, .unset] [(.int z4), (.int (4 : Int32)), (.ref b40), (.ref b40)])) (fun zt zk => XS.iload X44.here hx rfl (hb hby at_202) rfl zk) ?_
      obtain ⟨T45, h45, X45, e45, W45, st45⟩ := own_cst X44 hx hZ e44 U3 (j := 4) rfl (by decide) (by decide) (g := (mkF m 204 #[.val (.int p1), .val (.int p2), .val (.int p3), .val (.int p4), .val (.int (Int32.ofNat 5)), .val (.int z0), .val (.int z1), .val (.int z2), .val (.int z3), .val (.int z4), .val (.int z5), .unset, .unset, .unset] [(.int z4), (.int (4 : Int32)), (.ref b40), (.ref b40)])) rfl rfl (hb hby at_204)
      refine own_st (g1 := (mkF m 205 #[.val (.int p1), .val (.int p2), .val (.int p3), .val (.int p4), .val (.int (Int32.ofNat 5)), .val (.int z0), .val (.int z1), .val (.int z2), .val (.int z3), .val (.int z4), .val (.int z5), .unset, .unset, .unset] [(.ref b40)])) (st45) ?_
      have U4 := U3.setI W45
      have R4 := Fr.snoc X45 R3 gb
      have Zw4 : n0 ≤ h45.size := by rw [Wr.size W45]; exact Zw3
      refine own_st (g1 := (mkF m 207 #[.val (.int p1), .val (.int p2), .val (.int p3), .val (.int p4), .val (.int (Int32.ofNat 5)), .val (.int z0), .val (.int z1), .val (.int z2), .val (.int z3), .val (.int z4), .val (.int z5), .val (.ref b40), .unset, .unset] [])) (fun zt zk => XS.astore X45.here hx rfl (hb hby at_205) rfl rfl (l' := #[.val (.int p1), .val (.int p2), .val (.int p3), .val (.int p4), .val (.int (Int32.ofNat 5)), .val (.int z0), .val (.int z1), .val (.int z2), .val (.int z3), .val (.int z4), .val (.int z5), .val (.ref b40), .unset, .unset]) rfl zk) ?_
      refine own_st (g1 := (mkF m 246 #[.val (.int p1), .val (.int p2), .val (.int p3), .val (.int p4), .val (.int (Int32.ofNat 5)), .val (.int z0), .val (.int z1), .val (.int z2), .val (.int z3), .val (.int z4), .val (.int z5), .val (.ref b40), .unset, .unset] [])) (fun zt zk => XS.goto X45.here hx rfl (pc0 := 207) (pc' := 246) rfl (hb hby at_207) (by decide) (by decide) zk) ?_
      exact own_here X45 ⟨b40, rfl, rfl, rfl, R4, by rw [e45]; exact Zw4, gb, by rw [e45]; exact U4.congr (fun j hj => by
        have hj' : j = 0 ∨ j = 1 ∨ j = 2 ∨ j = 3 ∨ j = 4 := by omega
        subst hF
        rcases hj' with rfl | rfl | rfl | rfl | rfl <;> rfl)⟩
    · refine own_st (g1 := (mkF m 67 #[.val (.int p1), .val (.int p2), .val (.int p3), .val (.int p4), .val (.int (Int32.ofNat 6)), .val (.int z0), .val (.int z1), .val (.int z2), .val (.int z3), .val (.int z4), .val (.int z5), .unset, .unset, .unset] [(.int (Int32.ofNat 6))])) (fun zt zk => XS.iload X25.here hx rfl (hb hby at_65) rfl zk) ?_
      refine own_st (g1 := (mkF m 68 #[.val (.int p1), .val (.int p2), .val (.int p3), .val (.int p4), .val (.int (Int32.ofNat 6)), .val (.int z0), .val (.int z1), .val (.int z2), .val (.int z3), .val (.int z4), .val (.int z5), .unset, .unset, .unset] [(.int (1 : Int32)), (.int (Int32.ofNat 6))])) (fun zt zk => XS.iconst X25.here hx rfl (hb hby at_67) zk) ?_
      refine own_st (g1 := (mkF m 84 #[.val (.int p1), .val (.int p2), .val (.int p3), .val (.int p4), .val (.int (Int32.ofNat 6)), .val (.int z0), .val (.int z1), .val (.int z2), .val (.int z3), .val (.int z4), .val (.int z5), .unset, .unset, .unset] [])) (fun zt zk => XS.icmpYes X25.here hx rfl (pc0 := 68) (pc' := 84) rfl (hb hby at_68) rfl (feq (by decide)).2 (by decide) (by decide) zk) ?_
      refine own_st (g1 := (mkF m 86 #[.val (.int p1), .val (.int p2), .val (.int p3), .val (.int p4), .val (.int (Int32.ofNat 6)), .val (.int z0), .val (.int z1), .val (.int z2), .val (.int z3), .val (.int z4), .val (.int z5), .unset, .unset, .unset] [(.int (Int32.ofNat 6))])) (fun zt zk => XS.iload X25.here hx rfl (hb hby at_84) rfl zk) ?_
      refine own_st (g1 := (mkF m 87 #[.val (.int p1), .val (.int p2), .val (.int p3), .val (.int p4), .val (.int (Int32.ofNat 6)), .val (.int z0), .val (.int z1), .val (.int z2), .val (.int z3), .val (.int z4), .val (.int z5), .unset, .unset, .unset] [(.int (2 : Int32)), (.int (Int32.ofNat 6))])) (fun zt zk => XS.iconst X25.here hx rfl (hb hby at_86) zk) ?_
      refine own_st (g1 := (mkF m 108 #[.val (.int p1), .val (.int p2), .val (.int p3), .val (.int p4), .val (.int (Int32.ofNat 6)), .val (.int z0), .val (.int z1), .val (.int z2), .val (.int z3), .val (.int z4), .val (.int z5), .unset, .unset, .unset] [])) (fun zt zk => XS.icmpYes X25.here hx rfl (pc0 := 87) (pc' := 108) rfl (hb hby at_87) rfl (feq (by decide)).2 (by decide) (by decide) zk) ?_
      refine own_st (g1 := (mkF m 110 #[.val (.int p1), .val (.int p2), .val (.int p3), .val (.int p4), .val (.int (Int32.ofNat 6)), .val (.int z0), .val (.int z1), .val (.int z2), .val (.int z3), .val (.int z4), .val (.int z5), .unset, .unset, .unset] [(.int (Int32.ofNat 6))])) (fun zt zk => XS.iload X25.here hx rfl (hb hby at_108) rfl zk) ?_
      refine own_st (g1 := (mkF m 111 #[.val (.int p1), .val (.int p2), .val (.int p3), .val (.int p4), .val (.int (Int32.ofNat 6)), .val (.int z0), .val (.int z1), .val (.int z2), .val (.int z3), .val (.int z4), .val (.int z5), .unset, .unset, .unset] [(.int (3 : Int32)), (.int (Int32.ofNat 6))])) (fun zt zk => XS.iconst X25.here hx rfl (hb hby at_110) zk) ?_
      refine own_st (g1 := (mkF m 137 #[.val (.int p1), .val (.int p2), .val (.int p3), .val (.int p4), .val (.int (Int32.ofNat 6)), .val (.int z0), .val (.int z1), .val (.int z2), .val (.int z3), .val (.int z4), .val (.int z5), .unset, .unset, .unset] [])) (fun zt zk => XS.icmpYes X25.here hx rfl (pc0 := 111) (pc' := 137) rfl (hb hby at_111) rfl (feq (by decide)).2 (by decide) (by decide) zk) ?_
      refine own_st (g1 := (mkF m 139 #[.val (.int p1), .val (.int p2), .val (.int p3), .val (.int p4), .val (.int (Int32.ofNat 6)), .val (.int z0), .val (.int z1), .val (.int z2), .val (.int z3), .val (.int z4), .val (.int z5), .unset, .unset, .unset] [(.int (Int32.ofNat 6))])) (fun zt zk => XS.iload X25.here hx rfl (hb hby at_137) rfl zk) ?_
      refine own_st (g1 := (mkF m 140 #[.val (.int p1), .val (.int p2), .val (.int p3), .val (.int p4), .val (.int (Int32.ofNat 6)), .val (.int z0), .val (.int z1), .val (.int z2), .val (.int z3), .val (.int z4), .val (.int z5), .unset, .unset, .unset] [(.int (4 : Int32)), (.int (Int32.ofNat 6))])) (fun zt zk => XS.iconst X25.here hx rfl (hb hby at_139) zk) ?_
      refine own_st (g1 := (mkF m 171 #[.val (.int p1), .val (.int p2), .val (.int p3), .val (.int p4), .val (.int (Int32.ofNat 6)), .val (.int z0), .val (.int z1), .val (.int z2), .val (.int z3), .val (.int z4), .val (.int z5), .unset, .unset, .unset] [])) (fun zt zk => XS.icmpYes X25.here hx rfl (pc0 := 140) (pc' := 171) rfl (hb hby at_140) rfl (feq (by decide)).2 (by decide) (by decide) zk) ?_
      refine own_st (g1 := (mkF m 173 #[.val (.int p1), .val (.int p2), .val (.int p3), .val (.int p4), .val (.int (Int32.ofNat 6)), .val (.int z0), .val (.int z1), .val (.int z2), .val (.int z3), .val (.int z4), .val (.int z5), .unset, .unset, .unset] [(.int (Int32.ofNat 6))])) (fun zt zk => XS.iload X25.here hx rfl (hb hby at_171) rfl zk) ?_
      refine own_st (g1 := (mkF m 174 #[.val (.int p1), .val (.int p2), .val (.int p3), .val (.int p4), .val (.int (Int32.ofNat 6)), .val (.int z0), .val (.int z1), .val (.int z2), .val (.int z3), .val (.int z4), .val (.int z5), .unset, .unset, .unset] [(.int (5 : Int32)), (.int (Int32.ofNat 6))])) (fun zt zk => XS.iconst X25.here hx rfl (hb hby at_173) zk) ?_
      refine own_st (g1 := (mkF m 210 #[.val (.int p1), .val (.int p2), .val (.int p3), .val (.int p4), .val (.int (Int32.ofNat 6)), .val (.int z0), .val (.int z1), .val (.int z2), .val (.int z3), .val (.int z4), .val (.int z5), .unset, .unset, .unset] [])) (fun zt zk => XS.icmpYes X25.here hx rfl (pc0 := 174) (pc' := 210) rfl (hb hby at_174) rfl (feq (by decide)).2 (by decide) (by decide) zk) ?_
      refine own_st (g1 := (mkF m 212 #[.val (.int p1), .val (.int p2), .val (.int p3), .val (.int p4), .val (.int (Int32.ofNat 6)), .val (.int z0), .val (.int z1), .val (.int z2), .val (.int z3), .val (.int z4), .val (.int z5), .unset, .unset, .unset] [(.int (6 : Int32))])) (fun zt zk => XS.bipush X25.here hx rfl (hb hby at_210) zk) ?_
      obtain ⟨T46, h46, k46, X46, e46, E46, A46, st46⟩ := newP X25 hx hZ (hw _ (List.mem_of_getElem? (i := 5) rfl)) eh25 (g := (mkF m 212 #[.val (.int p1), .val (.int p2), .val (.int p3), .val (.int p4), .val (.int (Int32.ofNat 6)), .val (.int z0), .val (.int z1), .val (.int z2), .val (.int z3), .val (.int z4), .val (.int z5), .unset, .unset, .unset] [(.int (6 : Int32))])) rfl (hb hby at_212) rfl (by decide) (cap := 6) (by decide) (by decide) (by decide) (by decide)
      obtain ⟨b46, g46⟩ : ∃ z, z = h0.size := ⟨_, rfl⟩
      rw [← g46] at A46 st46
      refine own_st (g1 := (mkF m 214 #[.val (.int p1), .val (.int p2), .val (.int p3), .val (.int p4), .val (.int (Int32.ofNat 6)), .val (.int z0), .val (.int z1), .val (.int z2), .val (.int z3), .val (.int z4), .val (.int z5), .unset, .unset, .unset] [(.ref b46)])) (st46) ?_
      have U : VA Z h46 b46 .char 6 (fun _ => .int (0 : Int32)) := VA.new A46 rfl
      have gb : n0 ≤ b46 := by omega
      have Zu := Nat.le_trans Z0 E46.1
      refine own_st (g1 := (mkF m 215 #[.val (.int p1), .val (.int p2), .val (.int p3), .val (.int p4), .val (.int (Int32.ofNat 6)), .val (.int z0), .val (.int z1), .val (.int z2), .val (.int z3), .val (.int z4), .val (.int z5), .unset, .unset, .unset] [(.ref b46), (.ref b46)])) (fun zt zk => XS.dup X46.here hx rfl (hb hby at_214) rfl rfl zk) ?_
      refine own_st (g1 := (mkF m 216 #[.val (.int p1), .val (.int p2), .val (.int p3), .val (.int p4), .val (.int (Int32.ofNat 6)), .val (.int z0), .val (.int z1), .val (.int z2), .val (.int z3), .val (.int z4), .val (.int z5), .unset, .unset, .unset] [(.int (0 : Int32)), (.ref b46), (.ref b46)])) (fun zt zk => XS.iconst X46.here hx rfl (hb hby at_215) zk) ?_
      refine own_st (g1 := (mkF m 218 #[.val (.int p1), .val (.int p2), .val (.int p3), .val (.int p4), .val (.int (Int32.ofNat 6)), .val (.int z0), .val (.int z1), .val (.int z2), .val (.int z3), .val (.int z4), .val (.int z5), .unset, .unset, .unset] [(.int z0), (.int (0 : Int32)), (.ref b46), (.ref b46)])) (fun zt zk => XS.iload X46.here hx rfl (hb hby at_216) rfl zk) ?_
      obtain ⟨T47, h47, X47, e47, W47, st47⟩ := own_cst X46 hx hZ e46 U (j := 0) rfl (by decide) (by decide) (g := (mkF m 218 #[.val (.int p1), .val (.int p2), .val (.int p3), .val (.int p4), .val (.int (Int32.ofNat 6)), .val (.int z0), .val (.int z1), .val (.int z2), .val (.int z3), .val (.int z4), .val (.int z5), .unset, .unset, .unset] [(.int z0), (.int (0 : Int32)), (.ref b46), (.ref b46)])) rfl rfl (hb hby at_218)
      refine own_st (g1 := (mkF m 219 #[.val (.int p1), .val (.int p2), .val (.int p3), .val (.int p4), .val (.int (Int32.ofNat 6)), .val (.int z0), .val (.int z1), .val (.int z2), .val (.int z3), .val (.int z4), .val (.int z5), .unset, .unset, .unset] [(.ref b46)])) (st47) ?_
      have U0 := U.setI W47
      have R0 := Fr.snoc X47 M gb
      have Zw0 : n0 ≤ h47.size := by rw [Wr.size W47]; exact Zu
      refine own_st (g1 := (mkF m 220 #[.val (.int p1), .val (.int p2), .val (.int p3), .val (.int p4), .val (.int (Int32.ofNat 6)), .val (.int z0), .val (.int z1), .val (.int z2), .val (.int z3), .val (.int z4), .val (.int z5), .unset, .unset, .unset] [(.ref b46), (.ref b46)])) (fun zt zk => XS.dup X47.here hx rfl (hb hby at_219) rfl rfl zk) ?_
      refine own_st (g1 := (mkF m 221 #[.val (.int p1), .val (.int p2), .val (.int p3), .val (.int p4), .val (.int (Int32.ofNat 6)), .val (.int z0), .val (.int z1), .val (.int z2), .val (.int z3), .val (.int z4), .val (.int z5), .unset, .unset, .unset] [(.int (1 : Int32)), (.ref b46), (.ref b46)])) (fun zt zk => XS.iconst X47.here hx rfl (hb hby at_220) zk) ?_
      refine own_st (g1 := (mkF m 223 #[.val (.int p1), .val (.int p2), .val (.int p3), .val (.int p4), .val (.int (Int32.ofNat 6)), .val (.int z0), .val (.int z1), .val (.int z2), .val (.int z3), .val (.int z4), .val (.int z5), .unset, .unset, .unset] [(.int z1), (.int (1 : Int32)), (.ref b46), (.ref b46)])) (fun zt zk => XS.iload X47.here hx rfl (hb hby at_221) rfl zk) ?_
      obtain ⟨T48, h48, X48, e48, W48, st48⟩ := own_cst X47 hx hZ e47 U0 (j := 1) rfl (by decide) (by decide) (g := (mkF m 223 #[.val (.int p1), .val (.int p2), .val (.int p3), .val (.int p4), .val (.int (Int32.ofNat 6)), .val (.int z0), .val (.int z1), .val (.int z2), .val (.int z3), .val (.int z4), .val (.int z5), .unset, .unset, .unset] [(.int z1), (.int (1 : Int32)), (.ref b46), (.ref b46)])) rfl rfl (hb hby at_223)
      refine own_st (g1 := (mkF m 224 #[.val (.int p1), .val (.int p2), .val (.int p3), .val (.int p4), .val (.int (Int32.ofNat 6)), .val (.int z0), .val (.int z1), .val (.int z2), .val (.int z3), .val (.int z4), .val (.int z5), .unset, .unset, .unset] [(.ref b46)])) (st48) ?_
      have U1 := U0.setI W48
      have R1 := Fr.snoc X48 R0 gb
      have Zw1 : n0 ≤ h48.size := by rw [Wr.size W48]; exact Zw0
      refine own_st (g1 := (mkF m 225 #[.val (.int p1), .val (.int p2), .val (.int p3), .val (.int p4), .val (.int (Int32.ofNat 6)), .val (.int z0), .val (.int z1), .val (.int z2), .val (.int z3), .val (.int z4), .val (.int z5), .unset, .unset, .unset] [(.ref b46), (.ref b46)])) (fun zt zk => XS.dup X48.here hx rfl (hb hby at_224) rfl rfl zk) ?_
      refine own_st (g1 := (mkF m 226 #[.val (.int p1), .val (.int p2), .val (.int p3), .val (.int p4), .val (.int (Int32.ofNat 6)), .val (.int z0), .val (.int z1), .val (.int z2), .val (.int z3), .val (.int z4), .val (.int z5), .unset, .unset, .unset] [(.int (2 : Int32)), (.ref b46), (.ref b46)])) (fun zt zk => XS.iconst X48.here hx rfl (hb hby at_225) zk) ?_
      refine own_st (g1 := (mkF m 228 #[.val (.int p1), .val (.int p2), .val (.int p3), .val (.int p4), .val (.int (Int32.ofNat 6)), .val (.int z0), .val (.int z1), .val (.int z2), .val (.int z3), .val (.int z4), .val (.int z5), .unset, .unset, .unset] [(.int z2), (.int (2 : Int32)), (.ref b46), (.ref b46)])) (fun zt zk => XS.iload X48.here hx rfl (hb hby at_226) rfl zk) ?_
      obtain ⟨T49, h49, X49, e49, W49, st49⟩ := own_cst X48 hx hZ e48 U1 (j := 2) rfl (by decide) (by decide) (g := (mkF m 228 #[.val (.int p1), .val (.int p2), .val (.int p3), .val (.int p4), .val (.int (Int32.ofNat 6)), .val (.int z0), .val (.int z1), .val (.int z2), .val (.int z3), .val (.int z4), .val (.int z5), .unset, .unset, .unset] [(.int z2), (.int (2 : Int32)), (.ref b46), (.ref b46)])) rfl rfl (hb hby at_228)
      refine own_st (g1 := (mkF m 229 #[.val (.int p1), .val (.int p2), .val (.int p3), .val (.int p4), .val (.int (Int32.ofNat 6)), .val (.int z0), .val (.int z1), .val (.int z2), .val (.int z3), .val (.int z4), .val (.int z5), .unset, .unset, .unset] [(.ref b46)])) (st49) ?_
      have U2 := U1.setI W49
      have R2 := Fr.snoc X49 R1 gb
      have Zw2 : n0 ≤ h49.size := by rw [Wr.size W49]; exact Zw1
      refine own_st (g1 := (mkF m 230 #[.val (.int p1), .val (.int p2), .val (.int p3), .val (.int p4), .val (.int (Int32.ofNat 6)), .val (.int z0), .val (.int z1), .val (.int z2), .val (.int z3), .val (.int z4), .val (.int z5), .unset, .unset, .unset] [(.ref b46), (.ref b46)])) (fun zt zk => XS.dup X49.here hx rfl (hb hby at_229) rfl rfl zk) ?_
      refine own_st (g1 := (mkF m 231 #[.val (.int p1), .val (.int p2), .val (.int p3), .val (.int p4), .val (.int (Int32.ofNat 6)), .val (.int z0), .val (.int z1), .val (.int z2), .val (.int z3), .val (.int z4), .val (.int z5), .unset, .unset, .unset] [(.int (3 : Int32)), (.ref b46), (.ref b46)])) (fun zt zk => XS.iconst X49.here hx rfl (hb hby at_230) zk) ?_
      refine own_st (g1 := (mkF m 233 #[.val (.int p1), .val (.int p2), .val (.int p3), .val (.int p4), .val (.int (Int32.ofNat 6)), .val (.int z0), .val (.int z1), .val (.int z2), .val (.int z3), .val (.int z4), .val (.int z5), .unset, .unset, .unset] [(.int z3), (.int (3 : Int32)), (.ref b46), (.ref b46)])) (fun zt zk => XS.iload X49.here hx rfl (hb hby at_231) rfl zk) ?_
      obtain ⟨T50, h50, X50, e50, W50, st50⟩ := own_cst X49 hx hZ e49 U2 (j := 3) rfl (by decide) (by decide) (g := (mkF m 233 #[.val (.int p1), .val (.int p2), .val (.int p3), .val (.int p4), .val (.int (Int32.ofNat 6)), .val (.int z0), .val (.int z1), .val (.int z2), .val (.int z3), .val (.int z4), .val (.int z5), .unset, .unset, .unset] [(.int z3), (.int (3 : Int32)), (.ref b46), (.ref b46)])) rfl rfl (hb hby at_233)
      refine own_st (g1 := (mkF m 234 #[.val (.int p1), .val (.int p2), .val (.int p3), .val (.int p4), .val (.int (Int32.ofNat 6)), .val (.int z0), .val (.int z1), .val (.int z2), .val (.int z3), .val (.int z4), .val (.int z5), .unset, .unset, .unset] [(.ref b46)])) (st50) ?_
      have U3 := U2.setI W50
      have R3 := Fr.snoc X50 R2 gb
      have Zw3 : n0 ≤ h50.size := by rw [Wr.size W50]; exact Zw2
      refine own_st (g1 := (mkF m 235 #[.val (.int p1), .val (.int p2), .val (.int p3), .val (.int p4), .val (.int (Int32.ofNat 6)), .val (.int z0), .val (.int z1), .val (.int z2), .val (.int z3), .val (.int z4), .val (.int z5), .unset, .unset, .unset] [(.ref b46), (.ref b46)])) (fun zt zk => XS.dup X50.here hx rfl (hb hby at_234) rfl rfl zk) ?_
      refine own_st (g1 := (mkF m 236 #[.val (.int p1), .val (.int p2), .val (.int p3), .val (.int p4), .val (.int (Int32.ofNat 6)), .val (.int z0), .val (.int z1), .val (.int z2), .val (.int z3), .val (.int z4), .val (.int z5), .unset, .unset, .unset] [(.int (4 : Int32)), (.ref b46), (.ref b46)])) (fun zt zk => XS.iconst X50.here hx rfl (hb hby at_235) zk) ?_
      refine own_st (g1 := (mkF m 238 #[.val (.int p1), .val (.int p2), .val (.int p3), .val (.int p4), .val (.int (Int32.ofNat 6)), .val (.int z0), .val (.int z1), .val (.int z2), .val (.int z3), .val (.int z4), .val (.int z5), .unset, .unset, .unset] [(.int z4), (.int (4 : Int32)), (.ref b46), (.ref b46)])) (fun zt zk => XS.iload X50.here hx rfl (hb hby at_236) rfl zk) ?_
      obtain ⟨T51, h51, X51, e51, W51, st51⟩ := own_cst X50 hx hZ e50 U3 (j := 4) rfl (by decide) (by decide) (g := (mkF m 238 #[.val (.int p1), .val (.int p2), .val (.int p3), .val (.int p4), .val (.int (Int32.ofNat 6)), .val (.int z0), .val (.int z1), .val (.int z2), .val (.int z3), .val (.int z4), .val (.int z5), .unset, .unset, .unset] [(.int z4), (.int (4 : Int32)), (.ref b46), (.ref b46)])) rfl rfl (hb hby at_238)
      refine own_st (g1 := (mkF m 239 #[.val (.int p1), .val (.int p2), .val (.int p3), .val (.int p4), .val (.int (Int32.ofNat 6)), .val (.int z0), .val (.int z1), .val (.int z2), .val (.int z3), .val (.int z4), .val (.int z5), .unset, .unset, .unset] [(.ref b46)])) (st51) ?_
      have U4 := U3.setI W51
      have R4 := Fr.snoc X51 R3 gb
      have Zw4 : n0 ≤ h51.size := by rw [Wr.size W51]; exact Zw3
      refine own_st (g1 := (mkF m 240 #[.val (.int p1), .val (.int p2), .val (.int p3), .val (.int p4), .val (.int (Int32.ofNat 6)), .val (.int z0), .val (.int z1), .val (.int z2), .val (.int z3), .val (.int z4), .val (.int z5), .unset, .unset, .unset] [(.ref b46), (.ref b46)])) (fun zt zk => XS.dup X51.here hx rfl (hb hby at_239) rfl rfl zk) ?_
      refine own_st (g1 := (mkF m 241 #[.val (.int p1), .val (.int p2), .val (.int p3), .val (.int p4), .val (.int (Int32.ofNat 6)), .val (.int z0), .val (.int z1), .val (.int z2), .val (.int z3), .val (.int z4), .val (.int z5), .unset, .unset, .unset] [(.int (5 : Int32)), (.ref b46), (.ref b46)])) (fun zt zk => XS.iconst X51.here hx rfl (hb hby at_240) zk) ?_
      refine own_st (g1 := (mkF m 243 #[.val (.int p1), .val (.int p2), .val (.int p3), .val (.int p4), .val (.int (Int32.ofNat 6)), .val (.int z0), .val (.int z1), .val (.int z2), .val (.int z3), .val (.int z4), .val (.int z5), .unset, .unset, .unset] [(.int z5), (.int (5 : Int32)), (.ref b46), (.ref b46)])) (fun zt zk => XS.iload X51.here hx rfl (hb hby at_241) rfl zk) ?_
      obtain ⟨T52, h52, X52, e52, W52, st52⟩ := own_cst X51 hx hZ e51 U4 (j := 5) rfl (by decide) (by decide) (g := (mkF m 243 #[.val (.int p1), .val (.int p2), .val (.int p3), .val (.int p4), .val (.int (Int32.ofNat 6)), .val (.int z0), .val (.int z1), .val (.int z2), .val (.int z3), .val (.int z4), .val (.int z5), .unset, .unset, .unset] [(.int z5), (.int (5 : Int32)), (.ref b46), (.ref b46)])) rfl rfl (hb hby at_243)
      refine own_st (g1 := (mkF m 244 #[.val (.int p1), .val (.int p2), .val (.int p3), .val (.int p4), .val (.int (Int32.ofNat 6)), .val (.int z0), .val (.int z1), .val (.int z2), .val (.int z3), .val (.int z4), .val (.int z5), .unset, .unset, .unset] [(.ref b46)])) (st52) ?_
      have U5 := U4.setI W52
      have R5 := Fr.snoc X52 R4 gb
      have Zw5 : n0 ≤ h52.size := by rw [Wr.size W52]; exact Zw4
      refine own_st (g1 := (mkF m 246 #[.val (.int p1), .val (.int p2), .val (.int p3), .val (.int p4), .val (.int (Int32.ofNat 6)), .val (.int z0), .val (.int z1), .val (.int z2), .val (.int z3), .val (.int z4), .val (.int z5), .val (.ref b46), .unset, .unset] [])) (fun zt zk => XS.astore X52.here hx rfl (hb hby at_244) rfl rfl (l' := #[.val (.int p1), .val (.int p2), .val (.int p3), .val (.int p4), .val (.int (Int32.ofNat 6)), .val (.int z0), .val (.int z1), .val (.int z2), .val (.int z3), .val (.int z4), .val (.int z5), .val (.ref b46), .unset, .unset]) rfl zk) ?_
      exact own_here X52 ⟨b46, rfl, rfl, rfl, R5, by rw [e52]; exact Zw5, gb, by rw [e52]; exact U5.congr (fun j hj => by
        have hj' : j = 0 ∨ j = 1 ∨ j = 2 ∨ j = 3 ∨ j = 4 ∨ j = 5 := by omega
        subst hF
        rcases hj' with rfl | rfl | rfl | rfl | rfl | rfl <;> rfl)⟩
  refine own_bind hA ?_
  rintro T1 L1 _ _ _ X1 ⟨b, rfl, rfl, rfl, N1, Z1, gb, V1⟩
  refine own_st (g1 := (mkF m 248 #[.val (.int p1), .val (.int p2), .val (.int p3), .val (.int p4), .val (.int (Int32.ofNat n)), .val (.int z0), .val (.int z1), .val (.int z2), .val (.int z3), .val (.int z4), .val (.int z5), .val (.ref b), .unset, .unset] [(.ref b)])) (fun zt zk => XS.aload X1.here hx rfl (hb hby at_246) rfl rfl zk) ?_
  refine own_st (g1 := (mkF m 250 #[.val (.int p1), .val (.int p2), .val (.int p3), .val (.int p4), .val (.int (Int32.ofNat n)), .val (.int z0), .val (.int z1), .val (.int z2), .val (.int z3), .val (.int z4), .val (.int z5), .val (.ref b), .unset, .unset] [(.int (Int32.ofNat n)), (.ref b)])) (fun zt zk => XS.iload X1.here hx rfl (hb hby at_248) rfl zk) ?_
  obtain ⟨_, _, ⟨T53, L53, k53, n53⟩, -, X53, ⟨Lc53, hQ53, l53, y53, z53⟩, st53⟩ := Jvm.LawKit.callS X1 hx (y := (⟨"com/example/shiftwise/shiftwise/PrefixTableOverlapPinLaw", "longestBorder", "([CI)I"⟩ : MethodName)) hown (mvT hZ (hw _ (List.mem_of_getElem? (i := 6) rfl))) (mvT hZ (hw _ (List.mem_of_getElem? (i := 7) rfl))) (mvT hZ (hw _ (List.mem_of_getElem? (i := 3) rfl))) (mvT hZ (hw _ (List.mem_of_getElem? (i := 8) rfl))) (by decide) (backOf (W := 0) (rm2 l Z a0 hw [] b n F T1.heap n0 h6 V1) hZ (hw _ (List.mem_of_getElem? (i := 8) rfl)) (hw _ (List.mem_of_getElem? (i := 3) rfl)) (by decide) (by decide)) (g := (mkF m 250 #[.val (.int p1), .val (.int p2), .val (.int p3), .val (.int p4), .val (.int (Int32.ofNat n)), .val (.int z0), .val (.int z1), .val (.int z2), .val (.int z3), .val (.int z4), .val (.int z5), .val (.ref b), .unset, .unset] [(.int (Int32.ofNat n)), (.ref b)])) rfl (by rw [hml]; rfl) (argsL := [(.ref b), (.int (Int32.ofNat n))]) (rest := []) (lenOf pd_2 rfl) rfl (by show 2 * 0 + _ ≤ _; exact Nat.le_of_eq rfl) (hb hby at_250) (fun _ _ => ⟨rfl, rfl, (by decide : 1 + 0 ≤ _), (by decide : 6 + 0 ≤ _)⟩)
  dsimp only [Pt.U, Pt.locs, Pt.cells, Pt.slots] at X53 l53 y53 z53 st53 hQ53
  replace X53 := own_stand X53 l53 y53 z53
  clear l53 y53 z53
  obtain ⟨rfl, N53, hh53⟩ := hQ53
  refine own_st (g1 := (mkF m 253 #[.val (.int p1), .val (.int p2), .val (.int p3), .val (.int p4), .val (.int (Int32.ofNat n)), .val (.int z0), .val (.int z1), .val (.int z2), .val (.int z3), .val (.int z4), .val (.int z5), .val (.ref b), .unset, .unset] [(.int (Int32.ofNat (own_lb (own_E F) n)))])) (st53) ?_
  have eh53 : T53.heap = T1.heap := hh53
  have N2 := Fr.app N1 N53
  refine own_st (g1 := (mkF m 255 #[.val (.int p1), .val (.int p2), .val (.int p3), .val (.int p4), .val (.int (Int32.ofNat n)), .val (.int z0), .val (.int z1), .val (.int z2), .val (.int z3), .val (.int z4), .val (.int z5), .val (.ref b), .val (.int (Int32.ofNat (own_lb (own_E F) n))), .unset] [])) (fun zt zk => XS.istore X53.here hx rfl (hb hby at_253) rfl (l' := #[.val (.int p1), .val (.int p2), .val (.int p3), .val (.int p4), .val (.int (Int32.ofNat n)), .val (.int z0), .val (.int z1), .val (.int z2), .val (.int z3), .val (.int z4), .val (.int z5), .val (.ref b), .val (.int (Int32.ofNat (own_lb (own_E F) n))), .unset]) rfl zk) ?_
  obtain ⟨T54, h54, X54, e54, E54, A54, D54, -, st54⟩ := newO X53 hx hZ hown (hw _ (List.mem_of_getElem? (i := 9) rfl)) (hw _ (List.mem_of_getElem? (i := 10) rfl)) (hw _ (List.mem_of_getElem? (i := 11) rfl)) eh53 (g := (mkF m 255 #[.val (.int p1), .val (.int p2), .val (.int p3), .val (.int p4), .val (.int (Int32.ofNat n)), .val (.int z0), .val (.int z1), .val (.int z2), .val (.int z3), .val (.int z4), .val (.int z5), .val (.ref b), .val (.int (Int32.ofNat (own_lb (own_E F) n))), .unset] [])) rfl (hb hby at_255) (by decide) (by decide)
  obtain ⟨b54, g54⟩ : ∃ z, z = T1.heap.size := ⟨_, rfl⟩
  rw [← g54] at A54 D54 st54
  refine own_st (g1 := (mkF m 258 #[.val (.int p1), .val (.int p2), .val (.int p3), .val (.int p4), .val (.int (Int32.ofNat n)), .val (.int z0), .val (.int z1), .val (.int z2), .val (.int z3), .val (.int z4), .val (.int z5), .val (.ref b), .val (.int (Int32.ofNat (own_lb (own_E F) n))), .unset] [(.ref b54)])) (st54) ?_
  have F1 : Fld Z h54 b54 "com/example/shiftwise/shiftwise/PrefixTable" "pattern" "[C" .null := D54 (Or.inr (hw _ (List.mem_of_getElem? (i := 19) rfl))) (ty := (.array .char)) (by decide)
  have F2 : Fld Z h54 b54 "com/example/shiftwise/shiftwise/PrefixTable" "borders" "[I" .null := D54 (Or.inr (hw _ (List.mem_of_getElem? (i := 22) rfl))) (ty := (.array .int)) (by decide)
  have go : n0 ≤ b54 := by omega
  have hbo : b < b54 := by have := V1.lt; omega
  refine own_st (g1 := (mkF m 259 #[.val (.int p1), .val (.int p2), .val (.int p3), .val (.int p4), .val (.int (Int32.ofNat n)), .val (.int z0), .val (.int z1), .val (.int z2), .val (.int z3), .val (.int z4), .val (.int z5), .val (.ref b), .val (.int (Int32.ofNat (own_lb (own_E F) n))), .unset] [(.ref b54), (.ref b54)])) (fun zt zk => XS.dup X54.here hx rfl (hb hby at_258) rfl rfl zk) ?_
  refine own_st (g1 := (mkF m 261 #[.val (.int p1), .val (.int p2), .val (.int p3), .val (.int p4), .val (.int (Int32.ofNat n)), .val (.int z0), .val (.int z1), .val (.int z2), .val (.int z3), .val (.int z4), .val (.int z5), .val (.ref b), .val (.int (Int32.ofNat (own_lb (own_E F) n))), .unset] [(.ref b), (.ref b54), (.ref b54)])) (fun zt zk => XS.aload X54.here hx rfl (hb hby at_259) rfl rfl zk) ?_
  obtain ⟨_, _, ⟨T55, L55, k55, n55⟩, -, X55, ⟨Lc55, hQ55, l55, y55, z55⟩, st55⟩ := X54.specialBack hx (y := (⟨"com/example/shiftwise/shiftwise/PrefixTable", "<init>", "([C)V"⟩ : MethodName)) rfl hown (mvT hZ (hw _ (List.mem_of_getElem? (i := 12) rfl))) (mvT hZ (hw _ (List.mem_of_getElem? (i := 13) rfl))) (mvT hZ (hw _ (List.mem_of_getElem? (i := 14) rfl))) (by decide) (backOf (W := 1) (rm3 l Z a0 hw [] b54 b n F h54 n0 h1 h6 hbo go A54 F1 F2 (V1.ext E54)) hZ (hw _ (List.mem_of_getElem? (i := 14) rfl)) (hw _ (List.mem_of_getElem? (i := 11) rfl)) (by decide) (by decide)) (g := (mkF m 261 #[.val (.int p1), .val (.int p2), .val (.int p3), .val (.int p4), .val (.int (Int32.ofNat n)), .val (.int z0), .val (.int z1), .val (.int z2), .val (.int z3), .val (.int z4), .val (.int z5), .val (.ref b), .val (.int (Int32.ofNat (own_lb (own_E F) n))), .unset] [(.ref b), (.ref b54), (.ref b54)])) rfl (by rw [hml]; rfl) (Steps.refl _) (a := b54) (argsL := [(.ref b)]) (rest := [(.ref b54)]) (lenOf pd_3 rfl) rfl (by show 2 * 0 + _ ≤ _; exact Nat.le_of_eq rfl) (hb hby at_261) (fun _ _ => ⟨rfl, e54, (by decide : 1 + 0 + 1 + 1 ≤ _), (by decide : 6 + 0 + 2 + 6 ≤ _)⟩)
  dsimp only [Pt.U, Pt.locs, Pt.cells, Pt.slots] at X55 l55 y55 z55 st55 hQ55
  replace X55 := own_stand X55 l55 y55 z55
  clear l55 y55 z55
  obtain ⟨bb, rfl, N55, H55⟩ := hQ55
  refine own_st (g1 := (mkF m 264 #[.val (.int p1), .val (.int p2), .val (.int p3), .val (.int p4), .val (.int (Int32.ofNat n)), .val (.int z0), .val (.int z1), .val (.int z2), .val (.int z3), .val (.int z4), .val (.int z5), .val (.ref b), .val (.int (Int32.ofNat (own_lb (own_E F) n))), .unset] [(.ref b54)])) (fun zt zk => st55.trans zk) ?_
  have N3 := Fr.app N2 N55
  refine own_st (g1 := (mkF m 266 #[.val (.int p1), .val (.int p2), .val (.int p3), .val (.int p4), .val (.int (Int32.ofNat n)), .val (.int z0), .val (.int z1), .val (.int z2), .val (.int z3), .val (.int z4), .val (.int z5), .val (.ref b), .val (.int (Int32.ofNat (own_lb (own_E F) n))), .val (.ref b54)] [])) (fun zt zk => XS.astore X55.here hx rfl (hb hby at_264) rfl rfl (l' := #[.val (.int p1), .val (.int p2), .val (.int p3), .val (.int p4), .val (.int (Int32.ofNat n)), .val (.int z0), .val (.int z1), .val (.int z2), .val (.int z3), .val (.int z4), .val (.int z5), .val (.ref b), .val (.int (Int32.ofNat (own_lb (own_E F) n))), .val (.ref b54)]) rfl zk) ?_
  refine own_st (g1 := (mkF m 268 #[.val (.int p1), .val (.int p2), .val (.int p3), .val (.int p4), .val (.int (Int32.ofNat n)), .val (.int z0), .val (.int z1), .val (.int z2), .val (.int z3), .val (.int z4), .val (.int z5), .val (.ref b), .val (.int (Int32.ofNat (own_lb (own_E F) n))), .val (.ref b54)] [(.ref b54)])) (fun zt zk => XS.aload X55.here hx rfl (hb hby at_266) rfl rfl zk) ?_
  obtain ⟨cq56, kq56, q56a, q56b, q56c⟩ := isOf hZ rfl H55.1
  obtain ⟨_, _, ⟨T56, L56, k56, n56⟩, -, X56, ⟨Lc56, hQ56, l56, y56, z56⟩, st56⟩ := X55.virtualBack hx (y := (⟨"com/example/shiftwise/shiftwise/PrefixTable", "overlap", "()I"⟩ : MethodName)) (z := (⟨"com/example/shiftwise/shiftwise/PrefixTable", "overlap", "()I"⟩ : MethodName)) hown (mvT hZ (hw _ (List.mem_of_getElem? (i := 23) rfl))) (mvT hZ (hw _ (List.mem_of_getElem? (i := 24) rfl))) (notFace_of_selects (args := #[]) (mvT hZ (hw _ (List.mem_of_getElem? (i := 26) rfl)))) (mvT hZ (hw _ (List.mem_of_getElem? (i := 26) rfl))) (mvT hZ (hw _ (List.mem_of_getElem? (i := 25) rfl))) (by decide) (backOf (W := 0) (rm5 l Z a0 hw [] b54 b bb n F (own_kmp (own_E F) (n - 1) 1 0 (fun _ => 0)) T55.heap n0 h1 h6 H55) hZ (hw _ (List.mem_of_getElem? (i := 27) rfl)) (hw _ (List.mem_of_getElem? (i := 11) rfl)) (by decide) (by decide)) q56a q56c (g := (mkF m 268 #[.val (.int p1), .val (.int p2), .val (.int p3), .val (.int p4), .val (.int (Int32.ofNat n)), .val (.int z0), .val (.int z1), .val (.int z2), .val (.int z3), .val (.int z4), .val (.int z5), .val (.ref b), .val (.int (Int32.ofNat (own_lb (own_E F) n))), .val (.ref b54)] [(.ref b54)])) rfl (by rw [hml]; rfl) (Steps.refl _) (argsL := []) (rest := []) (lenOf pd_4 rfl) rfl (by show 2 * 0 + _ ≤ _; exact Nat.le_of_eq rfl) (hb hby at_268) (fun _ _ => ⟨rfl, rfl, (by decide : 1 + 0 + 1 + 1 + 0 ≤ _), (by decide : 6 + 0 + 2 + 6 + 0 ≤ _)⟩)
  dsimp only [Pt.U, Pt.locs, Pt.cells, Pt.slots] at X56 l56 y56 z56 st56 hQ56
  replace X56 := own_stand X56 l56 y56 z56
  clear l56 y56 z56
  obtain ⟨rfl, N56, hh56⟩ := hQ56
  refine own_st (g1 := (mkF m 271 #[.val (.int p1), .val (.int p2), .val (.int p3), .val (.int p4), .val (.int (Int32.ofNat n)), .val (.int z0), .val (.int z1), .val (.int z2), .val (.int z3), .val (.int z4), .val (.int z5), .val (.ref b), .val (.int (Int32.ofNat (own_lb (own_E F) n))), .val (.ref b54)] [(.int (Int32.ofNat (own_kmp (own_E F) (n - 1) 1 0 (fun _ => 0) (n - 1))))])) (fun zt zk => st56.trans zk) ?_
  have hlaw : own_kmp (own_E F) (n - 1) 1 0 (fun _ => 0) (n - 1) = own_lb (own_E F) n := by subst hF; exact own_law _ _ _ _ _ _ h1 h6
  rw [hlaw]
  refine own_st (g1 := (mkF m 273 #[.val (.int p1), .val (.int p2), .val (.int p3), .val (.int p4), .val (.int (Int32.ofNat n)), .val (.int z0), .val (.int z1), .val (.int z2), .val (.int z3), .val (.int z4), .val (.int z5), .val (.ref b), .val (.int (Int32.ofNat (own_lb (own_E F) n))), .val (.ref b54)] [(.int (Int32.ofNat (own_lb (own_E F) n))), (.int (Int32.ofNat (own_lb (own_E F) n)))])) (fun zt zk => XS.iload X56.here hx rfl (hb hby at_271) rfl zk) ?_
  refine own_st (g1 := (mkF m 276 #[.val (.int p1), .val (.int p2), .val (.int p3), .val (.int p4), .val (.int (Int32.ofNat n)), .val (.int z0), .val (.int z1), .val (.int z2), .val (.int z3), .val (.int z4), .val (.int z5), .val (.ref b), .val (.int (Int32.ofNat (own_lb (own_E F) n))), .val (.ref b54)] [])) (fun zt zk => XS.icmpNo X56.here hx rfl (hb hby at_273) rfl (teq rfl).2 zk) ?_
  refine own_st (g1 := (mkF m 277 #[.val (.int p1), .val (.int p2), .val (.int p3), .val (.int p4), .val (.int (Int32.ofNat n)), .val (.int z0), .val (.int z1), .val (.int z2), .val (.int z3), .val (.int z4), .val (.int z5), .val (.ref b), .val (.int (Int32.ofNat (own_lb (own_E F) n))), .val (.ref b54)] [(.int (1 : Int32))])) (fun zt zk => XS.iconst X56.here hx rfl (hb hby at_276) zk) ?_
  refine own_st (g1 := (mkF m 281 #[.val (.int p1), .val (.int p2), .val (.int p3), .val (.int p4), .val (.int (Int32.ofNat n)), .val (.int z0), .val (.int z1), .val (.int z2), .val (.int z3), .val (.int z4), .val (.int z5), .val (.ref b), .val (.int (Int32.ofNat (own_lb (own_E F) n))), .val (.ref b54)] [(.int (1 : Int32))])) (fun zt zk => XS.goto X56.here hx rfl (pc0 := 277) (pc' := 281) rfl (hb hby at_277) (by decide) (by decide) zk) ?_
  exact own_here X56 ⟨281, _, _, rfl, (hb hby at_281), rfl, (by decide), (by decide), ⟨rfl, Fr.app N3 N56⟩⟩
set_option maxRecDepth 65536 in
set_option maxHeartbeats 40000000 in
theorem comes_1 {Post : Tables → Env → Array Value → State → Outcome → State → Prop} (hpost : ∀ tb e args s v u, (limb_1_1.after args s (.returned v) u = true ∧ limb_1_2.after args s (.returned v) u = true ∧ True) → FrameEnd s (.returned v) u (Jvm.fieldLocs frame_1_writes args s ++ Jvm.arrayLocs frame_1_arrays args s ++ Jvm.staticLocs frame_1_statics s) 16 128 → Post tb e args s (.returned v) u) :
    ArmFor flags0 classFile x code maxLocals ret World_1 tables_1 room_1 Calls_1 rest_1 Pre_1 Post := by
  intro l hfl _ _ p e ha hc hk s m args below hf hA hF happ hP
  obtain ⟨hcalls, hrest, hpre⟩ := hP
  obtain ⟨-, -, -, hnamed, -, -, -, hat⟩ := (Spec.applies_iff hf).mp happ
  obtain ⟨hg, hn⟩ := and_e (Cond.before_iff.mp (show (Jvm.Cond.and given_1 narrow_1).before args s = true from hpre))
  obtain ⟨gc, g0⟩ := and_e hg
  obtain ⟨a0, g1⟩ := and_e g0
  obtain ⟨a1, g2⟩ := and_e g1
  obtain ⟨a2, g3⟩ := and_e g2
  have a3 := g3
  obtain ⟨w0, w1, w2, w3, rfl⟩ : ∃ w0 w1 w2 w3 : Value, args = #[w0, w1, w2, w3] := by
    have hs : args.size = 4 := by simpa [Cond.value, given_1] using gc
    obtain ⟨L⟩ := args
    match L, hs with
    | [w0, w1, w2, w3], _ => exact ⟨w0, w1, w2, w3, rfl⟩
  have hw := fun d (hd : d ∈ tables_1) => atoms_spec (ws := Jvm.Cond.code x code maxLocals ret :: tables_1) hat d (List.mem_cons_of_mem _ hd)
  obtain ⟨i0, ei0⟩ := is_v a0
  obtain rfl : w0 = (.int i0) := Option.some.inj ei0
  obtain ⟨i1, ei1⟩ := is_v a1
  obtain rfl : w1 = (.int i1) := Option.some.inj ei1
  obtain ⟨i2, ei2⟩ := is_v a2
  obtain rfl : w2 = (.int i2) := Option.some.inj ei2
  obtain ⟨i3, ei3⟩ := is_v a3
  obtain rfl : w3 = (.int i3) := Option.some.inj ei3
  obtain ⟨n, o, h1, h2, h3, _, L, rfl, ⟨rfl, N⟩, hq⟩ := rm0 l s _ hw tables_1 i0 i1 i2 i3 s.heap s.heap.size (Nat.le_refl _) p e ha hc hk s m _ below hf ((Spec.applies_iff_loose hf).mp happ).1 ⟨rfl, State.Warmed39.refl s, rfl⟩ trivial
  refine ⟨n, _, h1, h2, h3, hpost _ _ _ _ _ _ ⟨Cond.after_iff.mpr rfl, Cond.after_iff.mpr (eq_i res_at (Term.int_eval (1)) rfl), trivial⟩ ⟨hq.1, hq.2.1, (hq.2.2.sift fun y hy => Or.inr (N y hy)).mono (by decide) (by decide)⟩⟩
theorem main_1_1 : Claimed_1_1 := comes_1 fun _ _ _ _ _ _ h hF => ⟨h.1, hF⟩
theorem main_1_2 : Claimed_1_2 := comes_1 fun _ _ _ _ _ _ h hF => ⟨h.2.1, hF⟩
end Jvm.Pilot.@@N@@
namespace Jvm.Pilot.@@N@@
open Jvm Jvm.ClassFile Sem Op Lib Jvm.Free Jvm.Stand Jvm.Pilot.@@N@@.Jvm.D
/-! MADE BY PROGRAM (witnessworld.py) out of the Statement's table words and the real class files: 11 classes; the members and pool entries that the words name. The judged class is class 1, her method 1. -/
namespace start1
open Jvm.ClassFile
def u (s : String) : CpInfo := .utf8 (stringToUtf16 s)
/-- a pool by its gaps: so many unusable entries, then the entry; so many at the end -/
def gap : Nat → List CpInfo → List CpInfo
  | 0, r => r
  | n + 1, r => .unusable :: gap n r
def poolList (es : List (Nat × CpInfo)) (last : Nat) : List CpInfo := es.foldr (fun e r => gap e.1 (e.2 :: r)) (gap last [])
def pool (es : List (Nat × CpInfo)) (last : Nat) : Array CpInfo := ⟨poolList es last⟩
def fileOf (pool : Array CpInfo) (this : Nat) (attrs : Array Attribute := #[]) (ms : Array MethodInfo := #[]) (fl : Nat := 33) (sup : Nat := 0) (ifs : Array Nat := #[]) (fds : Array FieldInfo := #[]) : ClassFile where
  minorVersion := 0
  majorVersion := 65
  constantPool := pool
  accessFlags := fl
  thisClass := this
  superClass := sup
  interfaces := ifs
  fields := fds
  methods := ms
  attributes := attrs
def plain (name : String) (sup : Option ClassId) : Class where
  name := name
  kind := .ordinary
  loader := none
  accessFlags := 33
  super := sup
  interfaces := #[]
  cf := none
  fields := #[]
  methods := #[]
  instanceTypes := #[]
  staticTypes := #[]
  resolved := #[]
  callSites := []
  init := .initialized
  statics := none
  mirror := none

def pool0 : Array CpInfo := pool [(5, u "<init>"), (0, u "()V"), (1, .class_ 10), (1, u "java/lang/Object")] 113

def k0c0 : Code := { maxStack := 0, maxLocals := 1, code := object_method_1_code, exceptionTable := #[], attributes := #[] }
def k0m0 : Method := { name := "<init>", desc := "()V", sig := { parameters := [], returnType := none }, accessFlags := 1, code := some k0c0 }
/-- java/lang/Object -/
def k0 : Class := { plain "java/lang/Object" none with
  accessFlags := 33
  interfaces := #[]
  cf := some (fileOf pool0 8 #[] #[{ accessFlags := 1, nameIndex := 5, descriptorIndex := 6, attributes := #[] }] 33 0 #[] #[])
  fields := #[]
  methods := #[k0m0]
  instanceTypes := #[]
  staticTypes := #[]
  resolved := Array.replicate 124 none
  statics := none }

def pool1 : Array CpInfo := pool [(2, .class_ 4), (1, u "java/lang/Object"), (0, u "<init>"), (0, u "()V"), (0, .integer 2147483647), (0, .methodref 9 10), (0, .class_ 11), (0, .nameAndType 12 13), (0, u "com/example/shiftwise/shiftwise/PrefixTableOverlapPinLaw"), (0, u "ch"), (0, u "(IIII)C"), (0, .methodref 9 15), (0, .nameAndType 16 17), (0, u "longestBorder"), (0, u "([CI)I"), (0, .class_ 19), (0, u "com/example/shiftwise/shiftwise/PrefixTable"), (0, .methodref 18 21), (0, .nameAndType 5 22), (0, u "([C)V"), (0, .methodref 18 24), (0, .nameAndType 25 26), (0, u "overlap"), (0, u "()I"), (0, .methodref 9 28), (0, .nameAndType 29 30), (0, u "isBorder"), (0, u "([CII)Z"), (2, u "law"), (0, u "(IIII)Z")] 5

def k1m0 : Method := { name := "<init>", desc := "()V", sig := { parameters := [], returnType := none }, accessFlags := 1, code := none }
def k1c1 : Code := { maxStack := 4, maxLocals := 14, code := code, exceptionTable := #[], attributes := #[] }
def k1m1 : Method := { name := "law", desc := "(IIII)Z", sig := { parameters := [.int, .int, .int, .int], returnType := some .boolean }, accessFlags := 9, code := some k1c1 }
def k1c2 : Code := { maxStack := 4, maxLocals := 4, code := method_3_code, exceptionTable := #[], attributes := #[] }
def k1m2 : Method := { name := "ch", desc := "(IIII)C", sig := { parameters := [.int, .int, .int, .int], returnType := some .char }, accessFlags := 10, code := some k1c2 }
def k1c3 : Code := { maxStack := 4, maxLocals := 3, code := method_4_code, exceptionTable := #[], attributes := #[] }
def k1m3 : Method := { name := "isBorder", desc := "([CII)Z", sig := { parameters := [(.array .char), .int, .int], returnType := some .boolean }, accessFlags := 10, code := some k1c3 }
def k1c4 : Code := { maxStack := 3, maxLocals := 2, code := method_5_code, exceptionTable := #[], attributes := #[] }
def k1m4 : Method := { name := "longestBorder", desc := "([CI)I", sig := { parameters := [(.array .char), .int], returnType := some .int }, accessFlags := 10, code := some k1c4 }
/-- com/example/shiftwise/shiftwise/PrefixTableOverlapPinLaw -/
def k1 : Class := { plain "com/example/shiftwise/shiftwise/PrefixTableOverlapPinLaw" (some 0) with
  accessFlags := 49
  interfaces := #[]
  cf := some (fileOf pool1 9 #[] #[{ accessFlags := 1, nameIndex := 5, descriptorIndex := 6, attributes := #[] }, { accessFlags := 9, nameIndex := 33, descriptorIndex := 34, attributes := #[] }, { accessFlags := 10, nameIndex := 12, descriptorIndex := 13, attributes := #[] }, { accessFlags := 10, nameIndex := 29, descriptorIndex := 30, attributes := #[] }, { accessFlags := 10, nameIndex := 16, descriptorIndex := 17, attributes := #[] }] 49 2 #[] #[])
  fields := #[]
  methods := #[k1m0, k1m1, k1m2, k1m3, k1m4]
  instanceTypes := #[]
  staticTypes := #[]
  resolved := Array.replicate 40 none
  statics := none }

def pool2 : Array CpInfo := pool [(1, .methodref 2 3), (0, .class_ 4), (0, .nameAndType 5 6), (0, u "java/lang/Object"), (0, u "<init>"), (0, u "()V"), (0, .fieldref 8 9), (0, .class_ 10), (0, .nameAndType 11 12), (0, u "com/example/shiftwise/shiftwise/PrefixTable"), (0, u "pattern"), (0, u "[C"), (0, .fieldref 8 14), (0, .nameAndType 15 16), (0, u "borders"), (0, u "[I"), (5, u "()I"), (4, u "([C)V"), (4, u "overlap")] 4

def k2c0 : Code := { maxStack := 3, maxLocals := 4, code := prog_13_method_1_code, exceptionTable := #[], attributes := #[] }
def k2m0 : Method := { name := "<init>", desc := "([C)V", sig := { parameters := [(.array .char)], returnType := none }, accessFlags := 0, code := some k2c0 }
def k2c1 : Code := { maxStack := 3, maxLocals := 1, code := prog_13_method_2_code, exceptionTable := #[], attributes := #[] }
def k2m1 : Method := { name := "overlap", desc := "()I", sig := { parameters := [], returnType := some .int }, accessFlags := 0, code := some k2c1 }
/-- com/example/shiftwise/shiftwise/PrefixTable -/
def k2 : Class := { plain "com/example/shiftwise/shiftwise/PrefixTable" (some 0) with
  accessFlags := 48
  interfaces := #[]
  cf := some (fileOf pool2 8 #[] #[{ accessFlags := 0, nameIndex := 5, descriptorIndex := 27, attributes := #[] }, { accessFlags := 0, nameIndex := 32, descriptorIndex := 22, attributes := #[] }] 48 2 #[] #[{ accessFlags := 18, nameIndex := 11, descriptorIndex := 12, attributes := #[] }, { accessFlags := 18, nameIndex := 15, descriptorIndex := 16, attributes := #[] }])
  fields := #[{ name := "pattern", type := (.array .char), accessFlags := 18, slot := 0, constantValue := 0 }, { name := "borders", type := (.array .int), accessFlags := 18, slot := 1, constantValue := 0 }]
  methods := #[k2m0, k2m1]
  instanceTypes := #[(.array .char), (.array .int)]
  staticTypes := #[]
  resolved := Array.replicate 37 none
  statics := none }

def pool3 : Array CpInfo := pool [(1, u "java/lang/Cloneable"), (0, .class_ 1), (0, u "java/lang/Object"), (0, .class_ 3)] 3

/-- java/lang/Cloneable -/
def k3 : Class := { plain "java/lang/Cloneable" (some 0) with
  accessFlags := 1537
  interfaces := #[]
  cf := some (fileOf pool3 2 #[] #[] 1537 4 #[] #[])
  fields := #[]
  methods := #[]
  instanceTypes := #[]
  staticTypes := #[]
  resolved := Array.replicate 8 none
  statics := none }

def pool4 : Array CpInfo := pool [(1, u "java/io/Serializable"), (0, .class_ 1), (0, u "java/lang/Object"), (0, .class_ 3)] 3

/-- java/io/Serializable -/
def k4 : Class := { plain "java/io/Serializable" (some 0) with
  accessFlags := 1537
  interfaces := #[]
  cf := some (fileOf pool4 2 #[] #[] 1537 4 #[] #[])
  fields := #[]
  methods := #[]
  instanceTypes := #[]
  staticTypes := #[]
  resolved := Array.replicate 8 none
  statics := none }

/-- the primitive byte -/
def k5 : Class := { plain "byte" none with kind := .primitive 'B', accessFlags := 0x411 }
/-- [B -/
def k6 : Class := { plain "[B" (some 0) with kind := .array 5 .byte, interfaces := #[3, 4], accessFlags := 1041 }

/-- the primitive char -/
def k7 : Class := { plain "char" none with kind := .primitive 'C', accessFlags := 0x411 }
/-- [C -/
def k8 : Class := { plain "[C" (some 0) with kind := .array 7 .char, interfaces := #[3, 4], accessFlags := 1041 }

/-- the primitive int -/
def k9 : Class := { plain "int" none with kind := .primitive 'I', accessFlags := 0x411 }
/-- [I -/
def k10 : Class := { plain "[I" (some 0) with kind := .array 9 .int, interfaces := #[3, 4], accessFlags := 1041 }

def heap : Heap := #[]
def classes : Array Class := #[k0, k1, k2, k3, k4, k5, k6, k7, k8, k9, k10]
def interned : List (Array UInt16 × Addr) := []
def slotsUsed : Nat := 0
def theMethod : MethodId := ⟨1, 1⟩
def args0 : Array Value := #[.int 5, .int 3, .int 4, .int 1]
def aboutOver (below : List Frame) : State where
  vm := { classes := classes, interned := interned.toArray }
  heap := heap
  slotsUsed := slotsUsed
  threads := #[{ frames := .invoking theMethod args0 :: below }]
def below0 : List Frame := [.native { method := ⟨0, 0⟩, args := #[] }]
def about1 : State := aboutOver below0
def p0 : Program := .bare "" "" ""
def e0 : Env := launch0.env 0 0 0
theorem w_frames : about1.frames = Frame.invoking theMethod args0 :: below0 := rfl
set_option maxRecDepth 65536 in
theorem w_args : argsFit about1.vm theMethod args0 = true := by decide +kernel
set_option maxRecDepth 65536 in
theorem w_heap : heapFits about1 = true := by decide +kernel
set_option maxRecDepth 65536 in
theorem w_runnable : about1.curStatus? = some .runnable := by decide +kernel
set_option maxRecDepth 65536 in
theorem w_alone : about1.alone = true := by decide +kernel
set_option maxRecDepth 65536 in
theorem w_named : about1.methodNamed? x = some theMethod := by decide +kernel
set_option maxRecDepth 65536 in
theorem w_hears : about1.hears theMethod below0 = true := by decide +kernel
set_option maxRecDepth 65536 in
theorem w_ripe : about1.ripe theMethod args0 below0 = true := by decide +kernel
theorem w_running : about1.status = .running := rfl
set_option maxRecDepth 65536 in
theorem w_room : about1.hasRoom e0.platform room_1 = true :=
  launch0.hasRoom_least _ room_1 (by decide +kernel) (by decide +kernel) (by decide +kernel) (by decide +kernel) (by decide +kernel) (by decide +kernel)
theorem allAtoms_all (ts : List Jvm.Cond) (a : Array Jvm.Value) (st : Jvm.State) : (allAtoms ts).before a st = ts.all (fun c => c.before a st) := by
  induction ts with
  | nil => rfl
  | cons c t ih =>
    show (Jvm.Cond.and c (allAtoms t)).before a st = _
    rw [Jvm.Cond.before_and, ih, List.all_cons]
def words1 : List Jvm.Cond := Jvm.Cond.code x code maxLocals ret :: tables_1
/-- a 'code' word, met by the world's own term for the bytes: nothing is compared byte by byte -/
theorem code_word {y : MethodName} {bytes : ByteArray} {mx : Nat} {rt : Option FieldType} {a : Array Value} {s : State} {m : MethodId} {meth : Method} {c : Code} (h1 : s.methodNamed? y = some m) (h2 : s.vm.method? m = some meth) (h3 : meth.code = some c) (h4 : c.code = bytes)
    (h5 : (c.maxLocals == mx && c.exceptionTable.isEmpty && decide (c.maxStack ≤ mostOperands) && decide (meth.sig.returnType = rt) && !meth.locks && decide (parseMethodDescriptor y.desc = some meth.sig)) = true) : (Jvm.Cond.code y bytes mx rt).before a s = true := by
  simp only [Bool.and_eq_true, beq_iff_eq, Bool.not_eq_true', decide_eq_true_eq] at h5
  obtain ⟨⟨⟨⟨⟨g1, g2⟩, g3⟩, g4⟩, g5⟩, g6⟩ := h5
  simp [Cond.before, Cond.holds, Cond.value, h1, h2, h3, h4, g1, g2, g3, g4, g5, g6]
def isCode : Jvm.Cond → Bool
  | .code _ _ _ _ => true
  | _ => false
theorem all_split {L : List Jvm.Cond} {P : Jvm.Cond → Bool} (h1 : L.all (fun c => isCode c || P c) = true) (h2 : ∀ c ∈ L.filter isCode, P c = true) : L.all P = true := by
  refine List.all_eq_true.mpr fun c hc => ?_
  have h := List.all_eq_true.mp h1 c hc
  rcases Bool.eq_false_or_eq_true (isCode c) with hi | hi
  · exact h2 c (List.mem_filter.mpr ⟨hc, hi⟩)
  · simpa [hi] using h
set_option maxRecDepth 65536 in
theorem w_c0 : (Jvm.Cond.code x code maxLocals ret).before args0 about1 = true := code_word (m := ⟨1, 1⟩) (meth := k1m1) (c := k1c1) (by decide +kernel) rfl rfl rfl (by decide +kernel)
set_option maxRecDepth 65536 in
theorem w_c1 : (Jvm.Cond.code ({ cls := "com/example/shiftwise/shiftwise/PrefixTableOverlapPinLaw", name := "ch", desc := "(IIII)C" } : Jvm.MethodName) method_3_code (4 : Nat) (Option.some Jvm.ClassFile.FieldType.char)).before args0 about1 = true := code_word (m := ⟨1, 2⟩) (meth := k1m2) (c := k1c2) (by decide +kernel) rfl rfl rfl (by decide +kernel)
set_option maxRecDepth 65536 in
theorem w_c2 : (Jvm.Cond.code ({ cls := "com/example/shiftwise/shiftwise/PrefixTableOverlapPinLaw", name := "longestBorder", desc := "([CI)I" } : Jvm.MethodName) method_5_code (2 : Nat) (Option.some Jvm.ClassFile.FieldType.int)).before args0 about1 = true := code_word (m := ⟨1, 4⟩) (meth := k1m4) (c := k1c4) (by decide +kernel) rfl rfl rfl (by decide +kernel)
set_option maxRecDepth 65536 in
theorem w_c3 : (Jvm.Cond.code ({ cls := "com/example/shiftwise/shiftwise/PrefixTable", name := "<init>", desc := "([C)V" } : Jvm.MethodName) prog_13_method_1_code (4 : Nat) (Option.none : Option Jvm.ClassFile.FieldType)).before args0 about1 = true := code_word (m := ⟨2, 0⟩) (meth := k2m0) (c := k2c0) (by decide +kernel) rfl rfl rfl (by decide +kernel)
set_option maxRecDepth 65536 in
theorem w_c4 : (Jvm.Cond.code ({ cls := "java/lang/Object", name := "<init>", desc := "()V" } : Jvm.MethodName) object_method_1_code (1 : Nat) (Option.none : Option Jvm.ClassFile.FieldType)).before args0 about1 = true := code_word (m := ⟨0, 0⟩) (meth := k0m0) (c := k0c0) (by decide +kernel) rfl rfl rfl (by decide +kernel)
set_option maxRecDepth 65536 in
theorem w_c5 : (Jvm.Cond.code ({ cls := "com/example/shiftwise/shiftwise/PrefixTable", name := "overlap", desc := "()I" } : Jvm.MethodName) prog_13_method_2_code (1 : Nat) (Option.some Jvm.ClassFile.FieldType.int)).before args0 about1 = true := code_word (m := ⟨2, 1⟩) (meth := k2m1) (c := k2c1) (by decide +kernel) rfl rfl rfl (by decide +kernel)
set_option maxRecDepth 65536 in
theorem w_c6 : (Jvm.Cond.code ({ cls := "com/example/shiftwise/shiftwise/PrefixTableOverlapPinLaw", name := "isBorder", desc := "([CII)Z" } : Jvm.MethodName) method_4_code (3 : Nat) (Option.some Jvm.ClassFile.FieldType.boolean)).before args0 about1 = true := code_word (m := ⟨1, 3⟩) (meth := k1m3) (c := k1c3) (by decide +kernel) rfl rfl rfl (by decide +kernel)
def codes1 : List Jvm.Cond := [Jvm.Cond.code x code maxLocals ret, Jvm.Cond.code ({ cls := "com/example/shiftwise/shiftwise/PrefixTableOverlapPinLaw", name := "ch", desc := "(IIII)C" } : Jvm.MethodName) method_3_code (4 : Nat) (Option.some Jvm.ClassFile.FieldType.char), Jvm.Cond.code ({ cls := "com/example/shiftwise/shiftwise/PrefixTableOverlapPinLaw", name := "longestBorder", desc := "([CI)I" } : Jvm.MethodName) method_5_code (2 : Nat) (Option.some Jvm.ClassFile.FieldType.int), Jvm.Cond.code ({ cls := "com/example/shiftwise/shiftwise/PrefixTable", name := "<init>", desc := "([C)V" } : Jvm.MethodName) prog_13_method_1_code (4 : Nat) (Option.none : Option Jvm.ClassFile.FieldType), Jvm.Cond.code ({ cls := "java/lang/Object", name := "<init>", desc := "()V" } : Jvm.MethodName) object_method_1_code (1 : Nat) (Option.none : Option Jvm.ClassFile.FieldType), Jvm.Cond.code ({ cls := "com/example/shiftwise/shiftwise/PrefixTable", name := "overlap", desc := "()I" } : Jvm.MethodName) prog_13_method_2_code (1 : Nat) (Option.some Jvm.ClassFile.FieldType.int), Jvm.Cond.code ({ cls := "com/example/shiftwise/shiftwise/PrefixTableOverlapPinLaw", name := "isBorder", desc := "([CII)Z" } : Jvm.MethodName) method_4_code (3 : Nat) (Option.some Jvm.ClassFile.FieldType.boolean)]
set_option maxRecDepth 65536 in
theorem codes_eq : words1.filter isCode = codes1 := rfl
theorem w_codes : ∀ c ∈ words1.filter isCode, c.before args0 about1 = true := by
  rw [codes_eq]
  intro c hc
  simp only [codes1, List.mem_cons, List.not_mem_nil, or_false] at hc
  rcases hc with rfl | rfl | rfl | rfl | rfl | rfl | rfl
  · exact w_c0
  · exact w_c1
  · exact w_c2
  · exact w_c3
  · exact w_c4
  · exact w_c5
  · exact w_c6
set_option maxRecDepth 65536 in
theorem w_t1 : (words1.take 24).all (fun c => isCode c || c.before args0 about1) = true := by decide +kernel
set_option maxRecDepth 65536 in
theorem w_t2 : (words1.drop 24).all (fun c => isCode c || c.before args0 about1) = true := by decide +kernel
theorem w_tables : (allAtoms (Jvm.Cond.code x code maxLocals ret :: tables_1)).before args0 about1 = true := by
  rw [allAtoms_all]
  show words1.all (fun c => c.before args0 about1) = true
  refine all_split ?_ w_codes
  rw [← List.take_append_drop 24 words1, List.all_append, w_t1, w_t2]
  rfl
set_option maxRecDepth 65536 in
theorem w_case : (Jvm.Cond.and given_1 narrow_1).before args0 about1 = true := by decide +kernel
theorem w_applies : (headSpec (Jvm.Cond.code x code maxLocals ret :: tables_1) room_1).applies x e0.platform about1 = true :=
  (Spec.applies_iff w_frames).mpr ⟨w_running, w_runnable, w_alone, w_named, w_hears, w_ripe, w_room, w_tables⟩
theorem atStart : AtStart classFile x code maxLocals ret World_1 tables_1 room_1 Calls_1 rest_1 Pre_1 launch0 p0 e0 about1 theMethod args0 below0 :=
  ⟨lists_1, trivial, launch0.admits_env _ _ _, launch0.least_env, fairChoices_fair.cas, fairChoices_fair.clock, w_frames, w_args, w_heap, w_applies, trivial, trivial, w_case⟩
end start1
theorem witness_1 : WitnessClaimed_1 := ⟨start1.p0, start1.e0, start1.about1, start1.theMethod, start1.args0, start1.below0, start1.atStart⟩
end Jvm.Pilot.@@N@@
