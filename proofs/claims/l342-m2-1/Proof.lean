import JvmDerived
import JvmDerived.Pilot.@@N@@Statement
import JvmDerived.Pilot.@@N@@Code
set_option linter.unusedVariables false
set_option linter.unusedSimpArgs false
namespace Jvm.Pilot.@@N@@
open Jvm Jvm.ClassFile Sem Op Lib Jvm.Free Jvm.Stand Jvm.LawKit Jvm.RoadKit Bundle Jvm.Pilot.@@N@@.Jvm.D
section Own
variable {p : Program} {l : Launch} {e : Env} {R : Room} {s : State} {m : MethodId} {args : Array Value} {below : List Frame} {meth : Method} {c : Code} {T T0 T1 : State} {g0 g1 : JFrame} {locs : List Loc} {cells slots : Nat} {Z : State} {h h' h0 : Heap} {a b : Nat}
/-- the run goes from T0 with the frame g0 to a state of which P holds -/
def Goes (p : Program) (l : Launch) (e : Env) (R : Room) (s : State) (m : MethodId) (args : Array Value) (below : List Frame) (meth : Method) (c : Code) (T0 : State) (g0 : JFrame) (P : State → List Loc → Nat → Nat → JFrame → Prop) : Prop :=
  ∃ T' L' k' n' g', Stand p l e R s m args below meth c T' L' k' n' ∧ P T' L' k' n' g' ∧ ∀ t, Steps p.tables e below (T'.setTop g') t → Steps p.tables e below (T0.setTop g0) t
variable {P Q : State → List Loc → Nat → Nat → JFrame → Prop}
theorem own_st (st : ∀ t, Steps p.tables e below (T1.setTop g1) t → Steps p.tables e below (T0.setTop g0) t) (k : Goes p l e R s m args below meth c T1 g1 P) : Goes p l e R s m args below meth c T0 g0 P := by
  obtain ⟨T', L', k', n', g', X, hP, q⟩ := k
  exact ⟨T', L', k', n', g', X, hP, fun t r => st t (q t r)⟩
theorem own_here (X : Stand p l e R s m args below meth c T0 locs cells slots) (hP : P T0 locs cells slots g0) : Goes p l e R s m args below meth c T0 g0 P :=
  ⟨T0, locs, cells, slots, g0, X, hP, fun _ r => r⟩
theorem own_bind (k : Goes p l e R s m args below meth c T0 g0 P) (q : ∀ T' L' k' n' g', Stand p l e R s m args below meth c T' L' k' n' → P T' L' k' n' g' → Goes p l e R s m args below meth c T' g' Q) : Goes p l e R s m args below meth c T0 g0 Q := by
  obtain ⟨T', L', k', n', g', X, hP, st⟩ := k
  exact own_st st (q T' L' k' n' g' X hP)
theorem own_stand {L L' : List Loc} {k k' n n' : Nat} (X : Stand p l e R s m args below meth c T L k n) (h1 : L = L') (h2 : k = k') (h3 : n = n') : Stand p l e R s m args below meth c T L' k' n' := by subst h1 h2 h3; exact X
theorem own_cast (q : g0 = g1) (k : Goes p l e R s m args below meth c T0 g1 P) : Goes p l e R s m args below meth c T0 g0 P := by subst q; exact k
/-- the frame stands before a return of nothing -/
def EndV (m : MethodId) (c : Code) (K N : Nat) (Q : Option Value → Heap → List Loc → Prop) (T : State) (L : List Loc) (k n : Nat) (g : JFrame) : Prop := ∃ pc Ls, g = mkF m pc Ls [] ∧ decode c.code pc = .ok (.return_, 1) ∧ k ≤ K ∧ n ≤ N ∧ Q none T.heap L
/-- the frame stands before the return of an int of the kind t -/
def EndN (m : MethodId) (c : Code) (t : FieldType) (K N : Nat) (Q : Option Value → Heap → List Loc → Prop) (T : State) (L : List Loc) (k n : Nat) (g : JFrame) : Prop := ∃ pc Ls z, g = mkF m pc Ls [.int z] ∧ decode c.code pc = .ok (.ireturn, 1) ∧ narrow t (.int z) = .int z ∧ k ≤ K ∧ n ≤ N ∧ Q (some (.int z)) T.heap L
def EndJ (m : MethodId) (c : Code) (K N : Nat) (Q : Option Value → Heap → List Loc → Prop) (T : State) (L : List Loc) (k n : Nat) (g : JFrame) : Prop := ∃ pc Ls z, g = mkF m pc Ls [.long z] ∧ decode c.code pc = .ok (.lreturn, 1) ∧ k ≤ K ∧ n ≤ N ∧ Q (some (.long z)) T.heap L
def EndA (m : MethodId) (c : Code) (K N : Nat) (Q : Option Value → Heap → List Loc → Prop) (T : State) (L : List Loc) (k n : Nat) (g : JFrame) : Prop := ∃ pc Ls z, g = mkF m pc Ls [.ref z] ∧ decode c.code pc = .ok (.areturn, 1) ∧ k ≤ K ∧ n ≤ N ∧ Q (some (.ref z)) T.heap L
theorem own_finV {K N : Nat} {Q : Option Value → Heap → List Loc → Prop} (hx : p.tables.exec = Jvm.exec) (hret : meth.sig.returnType = none) (hlk : meth.locks = false) (G : Goes p l e R s m args below meth c T0 g0 (EndV m c K N Q)) :
    ∃ s₂ o, Steps p.tables e below (T0.setTop g0) s₂ ∧ s₂.status = .running ∧ Ended s₂ below o ∧ ∃ v L, o = .returned v ∧ Q v s₂.heap L ∧ FrameEnd s o s₂ L K N := by
  obtain ⟨T', L', k', n', g', X, ⟨pc, Ls, rfl, hd, hk, hn, hQ⟩, st⟩ := G
  obtain ⟨fs, hr, hrun, hended, hW, hsame⟩ := X.leave (v := none) (fun _ => rfl) hlk
  exact ⟨_, _, st _ (X.returnOut hx hret hd hr), hrun, hended, _, _, rfl, hQ, ⟨_, rfl⟩, hW, hsame.mono hk hn⟩
theorem own_finN {t : FieldType} {K N : Nat} {Q : Option Value → Heap → List Loc → Prop} (hti : t = .int ∨ t = .boolean ∨ t = .byte ∨ t = .char ∨ t = .short) (hx : p.tables.exec = Jvm.exec) (hret : meth.sig.returnType = some t) (hlk : meth.locks = false) (G : Goes p l e R s m args below meth c T0 g0 (EndN m c t K N Q)) :
    ∃ s₂ o, Steps p.tables e below (T0.setTop g0) s₂ ∧ s₂.status = .running ∧ Ended s₂ below o ∧ ∃ v L, o = .returned v ∧ Q v s₂.heap L ∧ FrameEnd s o s₂ L K N := by
  obtain ⟨T', L', k', n', g', X, ⟨pc, Ls, z, rfl, hd, hz, hk, hn, hQ⟩, st⟩ := G
  obtain ⟨fs, hr, hrun, hended, hW, hsame⟩ := X.leave (v := some (.int z)) (fun h => by rw [hret] at h; cases h) hlk
  exact ⟨_, _, st _ (X.ireturnOut hx hret hz hti hd hr), hrun, hended, _, _, rfl, hQ, ⟨_, rfl⟩, hW, hsame.mono hk hn⟩
theorem own_finJ {K N : Nat} {Q : Option Value → Heap → List Loc → Prop} (hx : p.tables.exec = Jvm.exec) (hret : meth.sig.returnType = some .long) (hlk : meth.locks = false) (G : Goes p l e R s m args below meth c T0 g0 (EndJ m c K N Q)) :
    ∃ s₂ o, Steps p.tables e below (T0.setTop g0) s₂ ∧ s₂.status = .running ∧ Ended s₂ below o ∧ ∃ v L, o = .returned v ∧ Q v s₂.heap L ∧ FrameEnd s o s₂ L K N := by
  obtain ⟨T', L', k', n', g', X, ⟨pc, Ls, z, rfl, hd, hk, hn, hQ⟩, st⟩ := G
  obtain ⟨fs, hr, hrun, hended, hW, hsame⟩ := X.leave (v := some (.long z)) (fun h => by rw [hret] at h; cases h) hlk
  exact ⟨_, _, st _ (X.lreturnOut hx hret hd hr), hrun, hended, _, _, rfl, hQ, ⟨_, rfl⟩, hW, hsame.mono hk hn⟩
theorem own_finA {t : FieldType} {K N : Nat} {Q : Option Value → Heap → List Loc → Prop} (ht : t.isReference = true) (hx : p.tables.exec = Jvm.exec) (hret : meth.sig.returnType = some t) (hlk : meth.locks = false) (G : Goes p l e R s m args below meth c T0 g0 (EndA m c K N Q)) :
    ∃ s₂ o, Steps p.tables e below (T0.setTop g0) s₂ ∧ s₂.status = .running ∧ Ended s₂ below o ∧ ∃ v L, o = .returned v ∧ Q v s₂.heap L ∧ FrameEnd s o s₂ L K N := by
  obtain ⟨T', L', k', n', g', X, ⟨pc, Ls, z, rfl, hd, hk, hn, hQ⟩, st⟩ := G
  obtain ⟨fs, hr, hrun, hended, hW, hsame⟩ := X.leave (v := some (.ref z)) (fun h => by rw [hret] at h; cases h) hlk
  exact ⟨_, _, st _ (X.areturnOut hx rfl hret ht hd hr), hrun, hended, _, _, rfl, hQ, ⟨_, rfl⟩, hW, hsame.mono hk hn⟩
/-- a method's contract -/
abbrev Meets (l : Launch) (Z : State) (y : MethodName) (bytes : ByteArray) (maxL : Nat) (ret : Option FieldType) (ws : List Jvm.Cond) (rm : Room) (A : Array Value) (h0 : Heap) (K N : Nat) (Q : Option Value → Heap → List Loc → Prop) : Prop :=
  MetFree l y (head1 (Jvm.Cond.code y bytes maxL ret :: ws) rm) (fun a U => a = A ∧ Z.Warmed39 U.vm ∧ U.heap = h0) (fun _ _ _ _ _ => True) (fun _ U o U' => ∃ v L, o = .returned v ∧ Q v U'.heap L ∧ FrameEnd U o U' L K N)
theorem own_meets {y : MethodName} {bytes : ByteArray} {maxL K N : Nat} {ret : Option FieldType} {ws : List Jvm.Cond} {rm : Room} {A : Array Value} {Q : Option Value → Heap → List Loc → Prop} (hp : plainFor y = true)
    (body : ∀ p e s m below meth c s₁, p.tables.exec = Jvm.exec → Z.Warmed39 s.vm → c.code = bytes → c.maxLocals = maxL → s.vm.findClass y.cls = some m.cls → meth.name = y.name → meth.sig.returnType = ret → meth.locks = false → Stand p l e rm s m A below meth c s₁ [] 0 0 → s₁.heap = h0 →
      ∃ s₂ o, Steps p.tables e below (s₁.setTop (entryFrame m A maxL)) s₂ ∧ s₂.status = .running ∧ Ended s₂ below o ∧ ∃ v L, o = .returned v ∧ Q v s₂.heap L ∧ FrameEnd s o s₂ L K N) : Meets l Z y bytes maxL ret ws rm A h0 K N Q := by
  refine MetFree.of_bodySF hp hisR ?_
  intro p e s m args below meth c s₁ Bd hml0 hP hK
  obtain ⟨rfl, hZ, hh⟩ := hP
  exact body p e s m below meth c s₁ Bd.exec hZ Bd.bytes hml0 (findClass_of_methodNamed Bd.named) (name_of_methodNamed Bd.named Bd.method).1 Bd.returns Bd.notSynchronized (Stand.of_body Bd) (by rw [← hh, Bd.state]; rfl)
theorem own_nin {x y : Nat} {L : List Nat} (q : x ≠ y) (r : x ∉ L) : x ∉ y :: L := ninS q r
theorem own_fl {C n d : String} {v : Value} (F : Fld Z h a C n d v) : @LT.lt Nat _ a h.size := F.lt
theorem own_el {C : String} (F : Exa Z h a C) : @LT.lt Nat _ a h.size := F.lt
/-- the array at a holds the n values f 0, f 1 .. -/
def VA (Z : State) (h : Heap) (a : Nat) (ty : FieldType) (n : Nat) (f : Nat → Value) : Prop := ∃ cl : Cell, Arr Z h a cl ty ∧ cl.slots.size = n ∧ ∀ j, j < n → cl.slots[j]? = some (f j)
variable {ty : FieldType} {n : Nat} {f : Nat → Value}
theorem VA.lt (A : VA Z h a ty n f) : @LT.lt Nat _ a h.size := by obtain ⟨cl, A, -⟩ := A; exact A.lt
theorem VA.ext (A : VA Z h a ty n f) (E : Ext h h') : VA Z h' a ty n f := by obtain ⟨cl, A, r⟩ := A; exact ⟨cl, A.ext E, r⟩
theorem VA.other {sl : Nat} {v : Value} (A : VA Z h b ty n f) (W : Wr h h' a sl v) (q : b ≠ a) : VA Z h' b ty n f := by obtain ⟨cl, A, r⟩ := A; exact ⟨cl, A.other W q, r⟩
theorem VA.keep {ws : List Addr} (A : VA Z h a ty n f) (K : Keep h h' ws) (q : a ∉ ws) : VA Z h' a ty n f := by obtain ⟨cl, A, r⟩ := A; exact ⟨cl, ⟨K.2.1 a cl A.1 q, A.2⟩, r⟩
theorem VA.congr {f' : Nat → Value} (A : VA Z h a ty n f) (q : ∀ j, j < n → f j = f' j) : VA Z h a ty n f' := by obtain ⟨cl, A, S, H⟩ := A; exact ⟨cl, A, S, fun j hj => by rw [← q j hj]; exact H j hj⟩
theorem own_slots (cl : Cell) (i : Nat) (v : Value) : (cl.setSlot i v).slots = cl.slots.setIfInBounds i v := rfl
theorem VA.set {i : Nat} {v : Value} (A : VA Z h a ty n f) (W : Wr h h' a i v) : VA Z h' a ty n (fun j => if j = i then v else f j) := by
  obtain ⟨cl, A, S, H⟩ := A
  refine ⟨_, A.same W, by rw [sz_set]; exact S, fun j hj => ?_⟩
  rw [own_slots]
  show _ = some (if j = i then v else f j)
  by_cases u : i = j
  · subst u; rw [if_pos rfl, Array.getElem?_setIfInBounds_self_of_lt (by rw [S]; exact hj)]
  · rw [if_neg (fun q => u q.symm), Array.getElem?_setIfInBounds_ne u]; exact H j hj
theorem own_newslots (k : ClassId) (ty : FieldType) (z : Int32) : (newA k ty z).slots = Array.replicate z.toNatClampNeg (defaultValue ty) := rfl
theorem VA.new {k : ClassId} {z : Int32} (A : Arr Z h a (newA k ty z) ty) (hn : z.toNatClampNeg = n) : VA Z h a ty n (fun _ => defaultValue ty) := by
  refine ⟨_, A, by rw [sz_new, hn], fun j hj => ?_⟩
  rw [own_newslots, hn, Array.getElem?_replicate, if_pos hj]
/-- place i of f turned to x -/
def upd {α : Type} (f : Nat → α) (i : Nat) (x : α) (j : Nat) : α := if j = i then x else f j
theorem VA.setI {i : Nat} {x : Int32} {f : Nat → Int32} (A : VA Z h a ty n (fun j => .int (f j))) (W : Wr h h' a i (.int x)) : VA Z h' a ty n (fun j => .int (upd f i x j)) :=
  (A.set W).congr fun j _ => by simp only [upd]; split <;> rfl
theorem VA.setJ {i : Nat} {x : Int64} {f : Nat → Int64} (A : VA Z h a ty n (fun j => .long (f j))) (W : Wr h h' a i (.long x)) : VA Z h' a ty n (fun j => .long (upd f i x j)) :=
  (A.set W).congr fun j _ => by simp only [upd]; split <;> rfl
theorem own_nn {j : Nat} (hj : j < 2147483648) : ¬ Int32.ofNat j < 0 := by
  rw [Int32.lt_iff_toInt_lt, Int32.toInt_ofNat_of_lt hj, show (0 : Int32).toInt = 0 from rfl]; omega
theorem own_n32 {j : Nat} (hj : j < 2147483648) : (Int32.ofNat j).toNatClampNeg = j := by
  rw [Int32.toNatClampNeg, Int32.toInt_ofNat_of_lt hj]; rfl
theorem own_lt {i j : Nat} (hi : i < 2147483648) (hj : j < 2147483648) : Int32.ofNat i < Int32.ofNat j ↔ i < j := by
  rw [Int32.lt_iff_toInt_lt, Int32.toInt_ofNat_of_lt hi, Int32.toInt_ofNat_of_lt hj]; omega
theorem own_eq {i j : Nat} (hi : i < 2147483648) (hj : j < 2147483648) : Int32.ofNat i = Int32.ofNat j ↔ i = j := by
  rw [← Int32.toInt_inj, Int32.toInt_ofNat_of_lt hi, Int32.toInt_ofNat_of_lt hj]; omega
theorem own_in {i : Int32} {j k : Nat} (hi : i = Int32.ofNat j) (hj : j < k) (hb : k ≤ 2147483648) : ¬ (i < 0 ∨ k ≤ i.toNatClampNeg) := by
  subst hi; rw [own_n32 (by omega)]; exact fun q => q.elim (own_nn (by omega)) (fun q => by omega)
theorem own_len (X : Stand p l e R s m args below meth c T locs cells slots) (hx : p.tables.exec = Jvm.exec) (hZ : Z.Warmed39 s.vm) (eT : T.heap = h) (A : VA Z h a ty n f) {N : Int32} (hN : N = Int32.ofNat n) {g : JFrame} (hg : g.method = m) {rest : List Value} (hs : g.stack = .ref a :: rest) (hd : decode c.code g.pc = .ok (.arraylength, 1)) :
    ∀ t, Steps p.tables e below (T.setTop { g with pc := g.pc + 1, stack := .int N :: rest }) t → Steps p.tables e below (T.setTop g) t := by
  obtain ⟨cl, A, S, H⟩ := A
  intro t k
  refine X.arraylength hx (by rw [eT]; exact A.1) (State.isArrayOf_alike hZ.alike A.2.1) hg hs hd _ ?_
  rw [S, show n.toInt32 = N from hN.symm]
  exact k
theorem own_ild (X : Stand p l e R s m args below meth c T locs cells slots) (hx : p.tables.exec = Jvm.exec) (hZ : Z.Warmed39 s.vm) (eT : T.heap = h) (A : VA Z h a .int n f) {i : Int32} {j : Nat} {v : Value} (hi : i = Int32.ofNat j) (hj : j < n) (hb : n ≤ 2147483648) (hv : f j = v) {g : JFrame} (hg : g.method = m) {rest : List Value} (hs : g.stack = .int i :: .ref a :: rest) (hd : decode c.code g.pc = .ok (.iaload, 1)) :
    ∀ t, Steps p.tables e below (T.setTop { g with pc := g.pc + 1, stack := v :: rest }) t → Steps p.tables e below (T.setTop g) t := by
  obtain ⟨cl, A, S, H⟩ := A
  exact X.iaload hx (by rw [eT]; exact A.1) (State.isArrayOf_alike hZ.alike A.2.1) A.2.2 (by rw [S]; exact own_in hi hj hb) (by rw [hi, own_n32 (by omega), H j hj, hv]) hg hs hd
theorem own_jld (X : Stand p l e R s m args below meth c T locs cells slots) (hx : p.tables.exec = Jvm.exec) (hZ : Z.Warmed39 s.vm) (eT : T.heap = h) (A : VA Z h a .long n f) {i : Int32} {j : Nat} {v : Value} (hi : i = Int32.ofNat j) (hj : j < n) (hb : n ≤ 2147483648) (hv : f j = v) {g : JFrame} (hg : g.method = m) {rest : List Value} (hs : g.stack = .int i :: .ref a :: rest) (hd : decode c.code g.pc = .ok (.laload, 1)) :
    ∀ t, Steps p.tables e below (T.setTop { g with pc := g.pc + 1, stack := v :: rest }) t → Steps p.tables e below (T.setTop g) t := by
  obtain ⟨cl, A, S, H⟩ := A
  exact X.laload hx (by rw [eT]; exact A.1) (State.isArrayOf_alike hZ.alike A.2.1) A.2.2 (by rw [S]; exact own_in hi hj hb) (by rw [hi, own_n32 (by omega), H j hj, hv]) hg hs hd
theorem own_cld (X : Stand p l e R s m args below meth c T locs cells slots) (hx : p.tables.exec = Jvm.exec) (hZ : Z.Warmed39 s.vm) (eT : T.heap = h) (A : VA Z h a .char n f) {i : Int32} {j : Nat} {v : Value} (hi : i = Int32.ofNat j) (hj : j < n) (hb : n ≤ 2147483648) (hv : f j = v) {g : JFrame} (hg : g.method = m) {rest : List Value} (hs : g.stack = .int i :: .ref a :: rest) (hd : decode c.code g.pc = .ok (.caload, 1)) :
    ∀ t, Steps p.tables e below (T.setTop { g with pc := g.pc + 1, stack := v :: rest }) t → Steps p.tables e below (T.setTop g) t := by
  obtain ⟨cl, A, S, H⟩ := A
  exact X.caload hx (by rw [eT]; exact A.1) (State.isArrayOf_alike hZ.alike A.2.1) A.2.2 (by rw [S]; exact own_in hi hj hb) (by rw [hi, own_n32 (by omega), H j hj, hv]) hg hs hd
theorem own_bld (X : Stand p l e R s m args below meth c T locs cells slots) (hx : p.tables.exec = Jvm.exec) (hZ : Z.Warmed39 s.vm) (eT : T.heap = h) (A : VA Z h a .byte n f) {i : Int32} {j : Nat} {v : Value} (hi : i = Int32.ofNat j) (hj : j < n) (hb : n ≤ 2147483648) (hv : f j = v) {g : JFrame} (hg : g.method = m) {rest : List Value} (hs : g.stack = .int i :: .ref a :: rest) (hd : decode c.code g.pc = .ok (.baload, 1)) :
    ∀ t, Steps p.tables e below (T.setTop { g with pc := g.pc + 1, stack := v :: rest }) t → Steps p.tables e below (T.setTop g) t := by
  obtain ⟨cl, A, S, H⟩ := A
  exact X.baloadBytes hx (by rw [eT]; exact A.1) (State.isArrayOf_alike hZ.alike A.2.1) A.2.2 (by rw [S]; exact own_in hi hj hb) (by rw [hi, own_n32 (by omega), H j hj, hv]) hg hs hd
theorem own_ist (X : Stand p l e R s m args below meth c T locs cells slots) (hx : p.tables.exec = Jvm.exec) (hZ : Z.Warmed39 s.vm) (eT : T.heap = h) (A : VA Z h a .int n f) {i x : Int32} {j : Nat} (hi : i = Int32.ofNat j) (hj : j < n) (hb : n ≤ 2147483648) {g : JFrame} (hg : g.method = m) {rest : List Value} (hs : g.stack = .int x :: .int i :: .ref a :: rest) (hd : decode c.code g.pc = .ok (.iastore, 1)) :
    ∃ T' h', Stand p l e R s m args below meth c T' (locs ++ [⟨a, j⟩]) cells slots ∧ T'.heap = h' ∧ Wr h h' a j (.int x) ∧ ∀ t, Steps p.tables e below (T'.setTop { g with pc := g.pc + 1, stack := rest }) t → Steps p.tables e below (T.setTop g) t := by
  obtain ⟨cl, A, S, H⟩ := A
  have q := stI X hx hZ eT A (by rw [S]; exact own_in hi hj hb) hg hs hd
  rw [hi, own_n32 (by omega)] at q
  exact q
theorem own_jst (X : Stand p l e R s m args below meth c T locs cells slots) (hx : p.tables.exec = Jvm.exec) (hZ : Z.Warmed39 s.vm) (eT : T.heap = h) (A : VA Z h a .long n f) {i : Int32} {x : Int64} {j : Nat} (hi : i = Int32.ofNat j) (hj : j < n) (hb : n ≤ 2147483648) {g : JFrame} (hg : g.method = m) {rest : List Value} (hs : g.stack = .long x :: .int i :: .ref a :: rest) (hd : decode c.code g.pc = .ok (.lastore, 1)) :
    ∃ T' h', Stand p l e R s m args below meth c T' (locs ++ [⟨a, j⟩]) cells slots ∧ T'.heap = h' ∧ Wr h h' a j (.long x) ∧ ∀ t, Steps p.tables e below (T'.setTop { g with pc := g.pc + 1, stack := rest }) t → Steps p.tables e below (T.setTop g) t := by
  obtain ⟨cl, A, S, H⟩ := A
  have q := stJ X hx hZ eT A (by rw [S]; exact own_in hi hj hb) hg hs hd
  rw [hi, own_n32 (by omega)] at q
  exact q
theorem own_cst (X : Stand p l e R s m args below meth c T locs cells slots) (hx : p.tables.exec = Jvm.exec) (hZ : Z.Warmed39 s.vm) (eT : T.heap = h) (A : VA Z h a .char n f) {i x : Int32} {j : Nat} (hi : i = Int32.ofNat j) (hj : j < n) (hb : n ≤ 2147483648) {g : JFrame} (hg : g.method = m) {rest : List Value} (hs : g.stack = .int x :: .int i :: .ref a :: rest) (hd : decode c.code g.pc = .ok (.castore, 1)) :
    ∃ T' h', Stand p l e R s m args below meth c T' (locs ++ [⟨a, j⟩]) cells slots ∧ T'.heap = h' ∧ Wr h h' a j (.int (nar .char x)) ∧ ∀ t, Steps p.tables e below (T'.setTop { g with pc := g.pc + 1, stack := rest }) t → Steps p.tables e below (T.setTop g) t := by
  obtain ⟨cl, A, S, H⟩ := A
  have q := stC X hx hZ eT A (by rw [S]; exact own_in hi hj hb) hg hs hd
  rw [hi, own_n32 (by omega)] at q
  exact q
theorem own_bst (X : Stand p l e R s m args below meth c T locs cells slots) (hx : p.tables.exec = Jvm.exec) (hZ : Z.Warmed39 s.vm) (eT : T.heap = h) (A : VA Z h a .byte n f) {i x : Int32} {j : Nat} (hi : i = Int32.ofNat j) (hj : j < n) (hb : n ≤ 2147483648) {g : JFrame} (hg : g.method = m) {rest : List Value} (hs : g.stack = .int x :: .int i :: .ref a :: rest) (hd : decode c.code g.pc = .ok (.bastore, 1)) :
    ∃ T' h', Stand p l e R s m args below meth c T' (locs ++ [⟨a, j⟩]) cells slots ∧ T'.heap = h' ∧ Wr h h' a j (.int (nar .byte x)) ∧ ∀ t, Steps p.tables e below (T'.setTop { g with pc := g.pc + 1, stack := rest }) t → Steps p.tables e below (T.setTop g) t := by
  obtain ⟨cl, A, S, H⟩ := A
  have q := stB X hx hZ eT A (by rw [S]; exact own_in hi hj hb) hg hs hd
  rw [hi, own_n32 (by omega)] at q
  exact q
end Own
theorem own_succ (k : Nat) : Int32.ofNat k + (1 : Int32) = Int32.ofNat (k + 1) := (Int32.ofNat_add k 1).symm
theorem own_pred (k : Nat) : Int32.ofNat (k + 1) - (1 : Int32) = Int32.ofNat k := by
  rw [← own_succ, Int32.add_sub_cancel]
theorem own_dbl (d : Nat) : (2 : Int32) * Int32.ofNat d + (1 : Int32) = Int32.ofNat (2 * d + 1) := by
  rw [← own_succ, Int32.ofNat_mul]; rfl
theorem own_half {i : Nat} (hp : 0 < i) (hi : i < 2147483648) : (Int32.ofNat i - (1 : Int32)) / (2 : Int32) = Int32.ofNat ((i - 1) / 2) := by
  obtain ⟨k, rfl⟩ : ∃ k, i = k + 1 := ⟨i - 1, by omega⟩
  rw [own_pred, ← Int32.toInt_inj]
  have h := (c_idiv (Int32.ofNat k) 2 2 (by decide) (by decide)).1 (by rw [Int32.toInt_ofNat_of_lt (by omega)]; omega)
  rw [h, Int32.toInt_ofNat_of_lt (by omega), Int32.toInt_ofNat_of_lt (by omega)]
  omega
/-- the sifting up of x from place i -/
def own_up (x : Int64) : Nat → Nat → (Nat → Int64) → (Nat → Int64)
  | 0, i, f => upd f i x
  | k + 1, i, f => if 0 < i ∧ x < f ((i - 1) / 2) then own_up x k ((i - 1) / 2) (upd f i (f ((i - 1) / 2))) else upd f i x
theorem own_up_zero {x : Int64} {i : Nat} {f : Nat → Int64} : own_up x 0 i f = upd f i x := rfl
theorem own_up_yes {x : Int64} {k i : Nat} {f : Nat → Int64} (hp : 0 < i) (hc : x < f ((i - 1) / 2)) : own_up x (k + 1) i f = own_up x k ((i - 1) / 2) (upd f i (f ((i - 1) / 2))) := if_pos ⟨hp, hc⟩
theorem own_up_no {x : Int64} {k i : Nat} {f : Nat → Int64} (h : ¬ (0 < i ∧ x < f ((i - 1) / 2))) : own_up x (k + 1) i f = upd f i x := if_neg h
/-- the lesser child -/
def own_kid (f : Nat → Int64) (ch sz : Nat) : Nat := if ch + 1 < sz ∧ f (ch + 1) < f ch then ch + 1 else ch
theorem own_kid_a {f : Nat → Int64} {ch sz : Nat} (h : ¬ ch + 1 < sz) : own_kid f ch sz = ch := if_neg fun q => h q.1
theorem own_kid_b {f : Nat → Int64} {ch sz : Nat} (_ : ch + 1 < sz) (h : ¬ f (ch + 1) < f ch) : own_kid f ch sz = ch := if_neg fun q => h q.2
theorem own_kid_c {f : Nat → Int64} {ch sz : Nat} (h1 : ch + 1 < sz) (h2 : f (ch + 1) < f ch) : own_kid f ch sz = ch + 1 := if_pos ⟨h1, h2⟩
theorem own_kid_lt {f : Nat → Int64} {ch sz : Nat} (h : ch < sz) : own_kid f ch sz < sz := by
  unfold own_kid; split
  · rename_i q; exact q.1
  · exact h
theorem own_kid_ge {f : Nat → Int64} {ch sz : Nat} : ch ≤ own_kid f ch sz := by
  unfold own_kid; split <;> omega
/-- the sifting down of la from place i, whose first child is ch, in a heap of sz -/
def own_down (la : Int64) (sz : Nat) : Nat → Nat → Nat → (Nat → Int64) → (Nat → Int64)
  | 0, i, _, f => upd f i la
  | k + 1, i, ch, f => if ch < sz ∧ f (own_kid f ch sz) < la then own_down la sz k (own_kid f ch sz) (2 * own_kid f ch sz + 1) (upd f i (f (own_kid f ch sz))) else upd f i la
theorem own_down_zero {la : Int64} {sz i ch : Nat} {f : Nat → Int64} : own_down la sz 0 i ch f = upd f i la := rfl
theorem own_down_end {la : Int64} {sz k i ch : Nat} {f : Nat → Int64} (h : ¬ ch < sz) : own_down la sz (k + 1) i ch f = upd f i la := if_neg fun q => h q.1
theorem own_down_no {la : Int64} {sz k i ch : Nat} {f : Nat → Int64} (_ : ch < sz) (h : ¬ f (own_kid f ch sz) < la) : own_down la sz (k + 1) i ch f = upd f i la := if_neg fun q => h q.2
theorem own_down_yes {la : Int64} {sz k i ch : Nat} {f : Nat → Int64} (h1 : ch < sz) (h2 : f (own_kid f ch sz) < la) : own_down la sz (k + 1) i ch f = own_down la sz k (own_kid f ch sz) (2 * own_kid f ch sz + 1) (upd f i (f (own_kid f ch sz))) := if_pos ⟨h1, h2⟩
/-- compare and swap -/
def own_cs (f : Nat → Int64) (i j : Nat) : Nat → Int64 := if f j < f i then upd (upd f i (f j)) j (f i) else f
theorem own_cs_yes {f : Nat → Int64} {i j : Nat} (h : f j < f i) : own_cs f i j = upd (upd f i (f j)) j (f i) := if_pos h
theorem own_cs_no {f : Nat → Int64} {i j : Nat} (h : ¬ f j < f i) : own_cs f i j = f := if_neg h
theorem own_upd0 {α : Type} (f : Nat → α) (i : Nat) (x : α) : upd f i x i = x := if_pos rfl
theorem own_upd1 {α : Type} (f : Nat → α) (i j : Nat) (x : α) (h : j ≠ i) : upd f i x j = f j := if_neg h
theorem own_p0 {f g : Nat → Int64} {x : Int64} (hg : g = own_up x 0 0 f)  : ∀ c : Int64 → Nat, c (g 0) = c x := by
  have e0 : g 0 = x := by subst hg; simp [own_up, upd]
  simp only [e0]
  exact fun c => by first | trivial | omega
theorem own_p1 {f g : Nat → Int64} {x : Int64} (hg : g = own_up x 1 1 f)  : (g 0).toInt ≤ (g 1).toInt ∧ ∀ c : Int64 → Nat, c (g 0) + c (g 1) = c (f 0) + c x := by
  by_cases h1 : x < f 0
  · have e0 : g 0 = x := by subst hg; simp [own_up, upd, h1]
    have e1 : g 1 = f 0 := by subst hg; simp [own_up, upd, h1]
    simp only [Int64.lt_iff_toInt_lt] at h1
    simp only [e0, e1]
    refine ⟨by omega, fun c => by first | trivial | omega⟩
  · have e0 : g 0 = f 0 := by subst hg; simp [own_up, upd, h1]
    have e1 : g 1 = x := by subst hg; simp [own_up, upd, h1]
    simp only [Int64.lt_iff_toInt_lt] at h1
    simp only [e0, e1]
    refine ⟨by omega, fun c => by first | trivial | omega⟩
theorem own_p2 {f g : Nat → Int64} {x : Int64} (hg : g = own_up x 2 2 f) (k0 : (f 0).toInt ≤ (f 1).toInt) : (g 0).toInt ≤ (g 1).toInt ∧ (g 0).toInt ≤ (g 2).toInt ∧ ∀ c : Int64 → Nat, c (g 0) + c (g 1) + c (g 2) = c (f 0) + c (f 1) + c x := by
  by_cases h1 : x < f 0
  · have e0 : g 0 = x := by subst hg; simp [own_up, upd, h1]
    have e1 : g 1 = f 1 := by subst hg; simp [own_up, upd, h1]
    have e2 : g 2 = f 0 := by subst hg; simp [own_up, upd, h1]
    simp only [Int64.lt_iff_toInt_lt] at h1
    simp only [e0, e1, e2]
    refine ⟨by omega, by omega, fun c => by first | trivial | omega⟩
  · have e0 : g 0 = f 0 := by subst hg; simp [own_up, upd, h1]
    have e1 : g 1 = f 1 := by subst hg; simp [own_up, upd, h1]
    have e2 : g 2 = x := by subst hg; simp [own_up, upd, h1]
    simp only [Int64.lt_iff_toInt_lt] at h1
    simp only [e0, e1, e2]
    refine ⟨by omega, by omega, fun c => by first | trivial | omega⟩
theorem own_p3 {f g : Nat → Int64} {x : Int64} (hg : g = own_up x 3 3 f) (k0 : (f 0).toInt ≤ (f 1).toInt) (k1 : (f 0).toInt ≤ (f 2).toInt) : (g 0).toInt ≤ (g 1).toInt ∧ (g 0).toInt ≤ (g 2).toInt ∧ (g 1).toInt ≤ (g 3).toInt ∧ ∀ c : Int64 → Nat, c (g 0) + c (g 1) + c (g 2) + c (g 3) = c (f 0) + c (f 1) + c (f 2) + c x := by
  by_cases h1 : x < f 1
  · by_cases h2 : x < f 0
    · have e0 : g 0 = x := by subst hg; simp [own_up, upd, h1, h2]
      have e1 : g 1 = f 0 := by subst hg; simp [own_up, upd, h1, h2]
      have e2 : g 2 = f 2 := by subst hg; simp [own_up, upd, h1, h2]
      have e3 : g 3 = f 1 := by subst hg; simp [own_up, upd, h1, h2]
      simp only [Int64.lt_iff_toInt_lt] at h1 h2
      simp only [e0, e1, e2, e3]
      refine ⟨by omega, by omega, by omega, fun c => by first | trivial | omega⟩
    · have e0 : g 0 = f 0 := by subst hg; simp [own_up, upd, h1, h2]
      have e1 : g 1 = x := by subst hg; simp [own_up, upd, h1, h2]
      have e2 : g 2 = f 2 := by subst hg; simp [own_up, upd, h1, h2]
      have e3 : g 3 = f 1 := by subst hg; simp [own_up, upd, h1, h2]
      simp only [Int64.lt_iff_toInt_lt] at h1 h2
      simp only [e0, e1, e2, e3]
      refine ⟨by omega, by omega, by omega, fun c => by first | trivial | omega⟩
  · have e0 : g 0 = f 0 := by subst hg; simp [own_up, upd, h1]
    have e1 : g 1 = f 1 := by subst hg; simp [own_up, upd, h1]
    have e2 : g 2 = f 2 := by subst hg; simp [own_up, upd, h1]
    have e3 : g 3 = x := by subst hg; simp [own_up, upd, h1]
    simp only [Int64.lt_iff_toInt_lt] at h1
    simp only [e0, e1, e2, e3]
    refine ⟨by omega, by omega, by omega, fun c => by first | trivial | omega⟩
theorem own_p4 {f g : Nat → Int64} {x : Int64} (hg : g = own_up x 4 4 f) (k0 : (f 0).toInt ≤ (f 1).toInt) (k1 : (f 0).toInt ≤ (f 2).toInt) (k2 : (f 1).toInt ≤ (f 3).toInt) : (g 0).toInt ≤ (g 1).toInt ∧ (g 0).toInt ≤ (g 2).toInt ∧ (g 1).toInt ≤ (g 3).toInt ∧ (g 1).toInt ≤ (g 4).toInt ∧ ∀ c : Int64 → Nat, c (g 0) + c (g 1) + c (g 2) + c (g 3) + c (g 4) = c (f 0) + c (f 1) + c (f 2) + c (f 3) + c x := by
  by_cases h1 : x < f 1
  · by_cases h2 : x < f 0
    · have e0 : g 0 = x := by subst hg; simp [own_up, upd, h1, h2]
      have e1 : g 1 = f 0 := by subst hg; simp [own_up, upd, h1, h2]
      have e2 : g 2 = f 2 := by subst hg; simp [own_up, upd, h1, h2]
      have e3 : g 3 = f 3 := by subst hg; simp [own_up, upd, h1, h2]
      have e4 : g 4 = f 1 := by subst hg; simp [own_up, upd, h1, h2]
      simp only [Int64.lt_iff_toInt_lt] at h1 h2
      simp only [e0, e1, e2, e3, e4]
      refine ⟨by omega, by omega, by omega, by omega, fun c => by first | trivial | omega⟩
    · have e0 : g 0 = f 0 := by subst hg; simp [own_up, upd, h1, h2]
      have e1 : g 1 = x := by subst hg; simp [own_up, upd, h1, h2]
      have e2 : g 2 = f 2 := by subst hg; simp [own_up, upd, h1, h2]
      have e3 : g 3 = f 3 := by subst hg; simp [own_up, upd, h1, h2]
      have e4 : g 4 = f 1 := by subst hg; simp [own_up, upd, h1, h2]
      simp only [Int64.lt_iff_toInt_lt] at h1 h2
      simp only [e0, e1, e2, e3, e4]
      refine ⟨by omega, by omega, by omega, by omega, fun c => by first | trivial | omega⟩
  · have e0 : g 0 = f 0 := by subst hg; simp [own_up, upd, h1]
    have e1 : g 1 = f 1 := by subst hg; simp [own_up, upd, h1]
    have e2 : g 2 = f 2 := by subst hg; simp [own_up, upd, h1]
    have e3 : g 3 = f 3 := by subst hg; simp [own_up, upd, h1]
    have e4 : g 4 = x := by subst hg; simp [own_up, upd, h1]
    simp only [Int64.lt_iff_toInt_lt] at h1
    simp only [e0, e1, e2, e3, e4]
    refine ⟨by omega, by omega, by omega, by omega, fun c => by first | trivial | omega⟩
theorem own_q4 {f g : Nat → Int64} (hg : g = own_down (f 4) 4 4 0 1 f) (k0 : (f 0).toInt ≤ (f 1).toInt) (k1 : (f 0).toInt ≤ (f 2).toInt) (k2 : (f 1).toInt ≤ (f 3).toInt) (k3 : (f 1).toInt ≤ (f 4).toInt) : (g 0).toInt ≤ (g 1).toInt ∧ (g 0).toInt ≤ (g 2).toInt ∧ (g 1).toInt ≤ (g 3).toInt ∧ (f 0).toInt ≤ (g 0).toInt ∧ (f 0).toInt ≤ (g 1).toInt ∧ (f 0).toInt ≤ (g 2).toInt ∧ (f 0).toInt ≤ (g 3).toInt ∧ ∀ c : Int64 → Nat, c (g 0) + c (g 1) + c (g 2) + c (g 3) + c (f 0) = c (f 0) + c (f 1) + c (f 2) + c (f 3) + c (f 4) := by
  by_cases h1 : f 2 < f 1
  · by_cases h2 : f 2 < f 4
    · have e0 : g 0 = f 2 := by subst hg; simp [own_down, own_kid, upd, h1, h2]
      have e1 : g 1 = f 1 := by subst hg; simp [own_down, own_kid, upd, h1, h2]
      have e2 : g 2 = f 4 := by subst hg; simp [own_down, own_kid, upd, h1, h2]
      have e3 : g 3 = f 3 := by subst hg; simp [own_down, own_kid, upd, h1, h2]
      simp only [Int64.lt_iff_toInt_lt] at h1 h2
      simp only [e0, e1, e2, e3]
      refine ⟨by omega, by omega, by omega, by omega, by omega, by omega, by omega, fun c => by first | trivial | omega⟩
    · have e0 : g 0 = f 4 := by subst hg; simp [own_down, own_kid, upd, h1, h2]
      have e1 : g 1 = f 1 := by subst hg; simp [own_down, own_kid, upd, h1, h2]
      have e2 : g 2 = f 2 := by subst hg; simp [own_down, own_kid, upd, h1, h2]
      have e3 : g 3 = f 3 := by subst hg; simp [own_down, own_kid, upd, h1, h2]
      simp only [Int64.lt_iff_toInt_lt] at h1 h2
      simp only [e0, e1, e2, e3]
      refine ⟨by omega, by omega, by omega, by omega, by omega, by omega, by omega, fun c => by first | trivial | omega⟩
  · by_cases h2 : f 1 < f 4
    · by_cases h3 : f 3 < f 4
      · have e0 : g 0 = f 1 := by subst hg; simp [own_down, own_kid, upd, h1, h2, h3]
        have e1 : g 1 = f 3 := by subst hg; simp [own_down, own_kid, upd, h1, h2, h3]
        have e2 : g 2 = f 2 := by subst hg; simp [own_down, own_kid, upd, h1, h2, h3]
        have e3 : g 3 = f 4 := by subst hg; simp [own_down, own_kid, upd, h1, h2, h3]
        simp only [Int64.lt_iff_toInt_lt] at h1 h2 h3
        simp only [e0, e1, e2, e3]
        refine ⟨by omega, by omega, by omega, by omega, by omega, by omega, by omega, fun c => by first | trivial | omega⟩
      · have e0 : g 0 = f 1 := by subst hg; simp [own_down, own_kid, upd, h1, h2, h3]
        have e1 : g 1 = f 4 := by subst hg; simp [own_down, own_kid, upd, h1, h2, h3]
        have e2 : g 2 = f 2 := by subst hg; simp [own_down, own_kid, upd, h1, h2, h3]
        have e3 : g 3 = f 3 := by subst hg; simp [own_down, own_kid, upd, h1, h2, h3]
        simp only [Int64.lt_iff_toInt_lt] at h1 h2 h3
        simp only [e0, e1, e2, e3]
        refine ⟨by omega, by omega, by omega, by omega, by omega, by omega, by omega, fun c => by first | trivial | omega⟩
    · have e0 : g 0 = f 4 := by subst hg; simp [own_down, own_kid, upd, h1, h2]
      have e1 : g 1 = f 1 := by subst hg; simp [own_down, own_kid, upd, h1, h2]
      have e2 : g 2 = f 2 := by subst hg; simp [own_down, own_kid, upd, h1, h2]
      have e3 : g 3 = f 3 := by subst hg; simp [own_down, own_kid, upd, h1, h2]
      simp only [Int64.lt_iff_toInt_lt] at h1 h2
      simp only [e0, e1, e2, e3]
      refine ⟨by omega, by omega, by omega, by omega, by omega, by omega, by omega, fun c => by first | trivial | omega⟩
theorem own_q3 {f g : Nat → Int64} (hg : g = own_down (f 3) 3 3 0 1 f) (k0 : (f 0).toInt ≤ (f 1).toInt) (k1 : (f 0).toInt ≤ (f 2).toInt) (k2 : (f 1).toInt ≤ (f 3).toInt) : (g 0).toInt ≤ (g 1).toInt ∧ (g 0).toInt ≤ (g 2).toInt ∧ (f 0).toInt ≤ (g 0).toInt ∧ (f 0).toInt ≤ (g 1).toInt ∧ (f 0).toInt ≤ (g 2).toInt ∧ ∀ c : Int64 → Nat, c (g 0) + c (g 1) + c (g 2) + c (f 0) = c (f 0) + c (f 1) + c (f 2) + c (f 3) := by
  by_cases h1 : f 2 < f 1
  · by_cases h2 : f 2 < f 3
    · have e0 : g 0 = f 2 := by subst hg; simp [own_down, own_kid, upd, h1, h2]
      have e1 : g 1 = f 1 := by subst hg; simp [own_down, own_kid, upd, h1, h2]
      have e2 : g 2 = f 3 := by subst hg; simp [own_down, own_kid, upd, h1, h2]
      simp only [Int64.lt_iff_toInt_lt] at h1 h2
      simp only [e0, e1, e2]
      refine ⟨by omega, by omega, by omega, by omega, by omega, fun c => by first | trivial | omega⟩
    · have e0 : g 0 = f 3 := by subst hg; simp [own_down, own_kid, upd, h1, h2]
      have e1 : g 1 = f 1 := by subst hg; simp [own_down, own_kid, upd, h1, h2]
      have e2 : g 2 = f 2 := by subst hg; simp [own_down, own_kid, upd, h1, h2]
      simp only [Int64.lt_iff_toInt_lt] at h1 h2
      simp only [e0, e1, e2]
      refine ⟨by omega, by omega, by omega, by omega, by omega, fun c => by first | trivial | omega⟩
  · by_cases h2 : f 1 < f 3
    · have e0 : g 0 = f 1 := by subst hg; simp [own_down, own_kid, upd, h1, h2]
      have e1 : g 1 = f 3 := by subst hg; simp [own_down, own_kid, upd, h1, h2]
      have e2 : g 2 = f 2 := by subst hg; simp [own_down, own_kid, upd, h1, h2]
      simp only [Int64.lt_iff_toInt_lt] at h1 h2
      simp only [e0, e1, e2]
      refine ⟨by omega, by omega, by omega, by omega, by omega, fun c => by first | trivial | omega⟩
    · have e0 : g 0 = f 3 := by subst hg; simp [own_down, own_kid, upd, h1, h2]
      have e1 : g 1 = f 1 := by subst hg; simp [own_down, own_kid, upd, h1, h2]
      have e2 : g 2 = f 2 := by subst hg; simp [own_down, own_kid, upd, h1, h2]
      simp only [Int64.lt_iff_toInt_lt] at h1 h2
      simp only [e0, e1, e2]
      refine ⟨by omega, by omega, by omega, by omega, by omega, fun c => by first | trivial | omega⟩
theorem own_q2 {f g : Nat → Int64} (hg : g = own_down (f 2) 2 2 0 1 f) (k0 : (f 0).toInt ≤ (f 1).toInt) (k1 : (f 0).toInt ≤ (f 2).toInt) : (g 0).toInt ≤ (g 1).toInt ∧ (f 0).toInt ≤ (g 0).toInt ∧ (f 0).toInt ≤ (g 1).toInt ∧ ∀ c : Int64 → Nat, c (g 0) + c (g 1) + c (f 0) = c (f 0) + c (f 1) + c (f 2) := by
  by_cases h1 : f 1 < f 2
  · have e0 : g 0 = f 1 := by subst hg; simp [own_down, own_kid, upd, h1]
    have e1 : g 1 = f 2 := by subst hg; simp [own_down, own_kid, upd, h1]
    simp only [Int64.lt_iff_toInt_lt] at h1
    simp only [e0, e1]
    refine ⟨by omega, by omega, by omega, fun c => by first | trivial | omega⟩
  · have e0 : g 0 = f 2 := by subst hg; simp [own_down, own_kid, upd, h1]
    have e1 : g 1 = f 1 := by subst hg; simp [own_down, own_kid, upd, h1]
    simp only [Int64.lt_iff_toInt_lt] at h1
    simp only [e0, e1]
    refine ⟨by omega, by omega, by omega, fun c => by first | trivial | omega⟩
theorem own_q1 {f g : Nat → Int64} (hg : g = own_down (f 1) 1 1 0 1 f) (k0 : (f 0).toInt ≤ (f 1).toInt) : (f 0).toInt ≤ (g 0).toInt ∧ ∀ c : Int64 → Nat, c (g 0) + c (f 0) = c (f 0) + c (f 1) := by
  have e0 : g 0 = f 1 := by subst hg; simp [own_down, own_kid, upd]
  simp only [e0]
  refine ⟨by omega, fun c => by first | trivial | omega⟩
def own_sum (c : Int64 → Nat) (f : Nat → Int64) : Nat := c (f 0) + c (f 1) + c (f 2) + c (f 3) + c (f 4)
theorem own_s03 (c : Int64 → Nat) (f : Nat → Int64) : own_sum c (own_cs f 0 3) = own_sum c f := by
  by_cases h : f 3 < f 0
  · rw [own_cs_yes h]; simp [own_sum, upd]; omega
  · rw [own_cs_no h]
theorem own_s14 (c : Int64 → Nat) (f : Nat → Int64) : own_sum c (own_cs f 1 4) = own_sum c f := by
  by_cases h : f 4 < f 1
  · rw [own_cs_yes h]; simp [own_sum, upd]; omega
  · rw [own_cs_no h]
theorem own_s02 (c : Int64 → Nat) (f : Nat → Int64) : own_sum c (own_cs f 0 2) = own_sum c f := by
  by_cases h : f 2 < f 0
  · rw [own_cs_yes h]; simp [own_sum, upd]; omega
  · rw [own_cs_no h]
theorem own_s13 (c : Int64 → Nat) (f : Nat → Int64) : own_sum c (own_cs f 1 3) = own_sum c f := by
  by_cases h : f 3 < f 1
  · rw [own_cs_yes h]; simp [own_sum, upd]; omega
  · rw [own_cs_no h]
theorem own_s01 (c : Int64 → Nat) (f : Nat → Int64) : own_sum c (own_cs f 0 1) = own_sum c f := by
  by_cases h : f 1 < f 0
  · rw [own_cs_yes h]; simp [own_sum, upd]; omega
  · rw [own_cs_no h]
theorem own_s24 (c : Int64 → Nat) (f : Nat → Int64) : own_sum c (own_cs f 2 4) = own_sum c f := by
  by_cases h : f 4 < f 2
  · rw [own_cs_yes h]; simp [own_sum, upd]; omega
  · rw [own_cs_no h]
theorem own_s12 (c : Int64 → Nat) (f : Nat → Int64) : own_sum c (own_cs f 1 2) = own_sum c f := by
  by_cases h : f 2 < f 1
  · rw [own_cs_yes h]; simp [own_sum, upd]; omega
  · rw [own_cs_no h]
theorem own_s34 (c : Int64 → Nat) (f : Nat → Int64) : own_sum c (own_cs f 3 4) = own_sum c f := by
  by_cases h : f 4 < f 3
  · rw [own_cs_yes h]; simp [own_sum, upd]; omega
  · rw [own_cs_no h]
theorem own_s23 (c : Int64 → Nat) (f : Nat → Int64) : own_sum c (own_cs f 2 3) = own_sum c f := by
  by_cases h : f 3 < f 2
  · rw [own_cs_yes h]; simp [own_sum, upd]; omega
  · rw [own_cs_no h]
/-- compare and swap on what is at least z -/
def own_bcs (b : Nat → Bool) (i j k : Nat) : Bool := if k = j then (b i || b j) else if k = i then (b i && b j) else b k
def own_at (z : Int64) (f : Nat → Int64) (k : Nat) : Bool := decide (z ≤ f k)
theorem own_cs_at (z : Int64) (f : Nat → Int64) {i j : Nat} (hij : i ≠ j) : own_at z (own_cs f i j) = own_bcs (own_at z f) i j := by
  funext k
  have hji : j ≠ i := fun q => hij q.symm
  by_cases h : f j < f i
  · rw [own_cs_yes h]
    rw [Int64.lt_iff_toInt_lt] at h
    by_cases hk : k = j
    · subst hk
      simp only [own_at, own_bcs, own_upd0, if_true, Int64.le_iff_toInt_le]
      by_cases h1 : z.toInt ≤ (f i).toInt
      · simp [h1]
      · have h2 : ¬ z.toInt ≤ (f k).toInt := by omega
        simp [h1, h2]
    · by_cases hk2 : k = i
      · subst hk2
        simp only [own_at, own_bcs, own_upd1 _ _ _ _ hk, own_upd0, if_neg hk, if_true, Int64.le_iff_toInt_le]
        by_cases h1 : z.toInt ≤ (f j).toInt
        · have h2 : z.toInt ≤ (f k).toInt := by omega
          simp [h1, h2]
        · simp [h1]
      · simp only [own_at, own_bcs, own_upd1 _ _ _ _ hk, own_upd1 _ _ _ _ hk2, if_neg hk, if_neg hk2]
  · rw [own_cs_no h]
    rw [Int64.lt_iff_toInt_lt] at h
    by_cases hk : k = j
    · subst hk
      simp only [own_at, own_bcs, if_true, Int64.le_iff_toInt_le]
      by_cases h1 : z.toInt ≤ (f i).toInt
      · have h2 : z.toInt ≤ (f k).toInt := by omega
        simp [h1, h2]
      · simp [h1]
    · by_cases hk2 : k = i
      · subst hk2
        simp only [own_at, own_bcs, if_neg hk, if_true, Int64.le_iff_toInt_le]
        by_cases h1 : z.toInt ≤ (f j).toInt
        · simp [h1]
        · have h2 : ¬ z.toInt ≤ (f k).toInt := by omega
          simp [h1, h2]
      · simp only [own_at, own_bcs, if_neg hk, if_neg hk2]
def own_k9 (a b c d e : Bool) : Bool := (!a || b) && (!b || c) && (!c || d) && (!d || e)
def own_k8 (a b c d e : Bool) : Bool := own_k9 a b (c && d) (c || d) e
def own_k7 (a b c d e : Bool) : Bool := own_k8 a b c (d && e) (d || e)
def own_k6 (a b c d e : Bool) : Bool := own_k7 a (b && c) (b || c) d e
def own_k5 (a b c d e : Bool) : Bool := own_k6 a b (c && e) d (c || e)
def own_k4 (a b c d e : Bool) : Bool := own_k5 (a && b) (a || b) c d e
def own_k3 (a b c d e : Bool) : Bool := own_k4 a (b && d) c (b || d) e
def own_k2 (a b c d e : Bool) : Bool := own_k3 (a && c) b (a || c) d e
def own_k1 (a b c d e : Bool) : Bool := own_k2 a (b && e) c d (b || e)
def own_k0 (a b c d e : Bool) : Bool := own_k1 (a && d) b c (a || d) e
theorem own_check : ∀ a b c d e : Bool, own_k0 a b c d e = true := by decide
theorem own_k9s : ∀ a b c d e : Bool, own_k9 a b c d e = true → (a = true → b = true) ∧ (b = true → c = true) ∧ (c = true → d = true) ∧ (d = true → e = true) := by decide
theorem own_le (p0 p1 p2 p3 p4 s0 s1 s2 s3 s4 : Int64) (a0 : p0.toInt ≤ p1.toInt) (a1 : p1.toInt ≤ p2.toInt) (a2 : p2.toInt ≤ p3.toInt) (a3 : p3.toInt ≤ p4.toInt) (b0 : s0.toInt ≤ s1.toInt) (b1 : s1.toInt ≤ s2.toInt) (b2 : s2.toInt ≤ s3.toInt) (b3 : s3.toInt ≤ s4.toInt) (hc : ∀ c : Int64 → Nat, c p0 + c p1 + c p2 + c p3 + c p4 = c s0 + c s1 + c s2 + c s3 + c s4) : p0.toInt ≤ s0.toInt ∧ p1.toInt ≤ s1.toInt ∧ p2.toInt ≤ s2.toInt ∧ p3.toInt ≤ s3.toInt ∧ p4.toInt ≤ s4.toInt := by
  refine ⟨?_, ?_, ?_, ?_, ?_⟩
  · refine Int.not_lt.mp (fun hlt => ?_)
    have h : (if p0 < p0 then 1 else 0) + (if p1 < p0 then 1 else 0) + (if p2 < p0 then 1 else 0) + (if p3 < p0 then 1 else 0) + (if p4 < p0 then 1 else 0) = (if s0 < p0 then 1 else 0) + (if s1 < p0 then 1 else 0) + (if s2 < p0 then 1 else 0) + (if s3 < p0 then 1 else 0) + (if s4 < p0 then 1 else 0) := hc (fun x => if x < p0 then 1 else 0)
    have z0 : (if p0 < p0 then 1 else 0) = (0 : Nat) := if_neg (by rw [Int64.lt_iff_toInt_lt]; omega)
    have o0 : (if s0 < p0 then 1 else 0) = (1 : Nat) := if_pos (by rw [Int64.lt_iff_toInt_lt]; omega)
    have z1 : (if p1 < p0 then 1 else 0) = (0 : Nat) := if_neg (by rw [Int64.lt_iff_toInt_lt]; omega)
    have z2 : (if p2 < p0 then 1 else 0) = (0 : Nat) := if_neg (by rw [Int64.lt_iff_toInt_lt]; omega)
    have z3 : (if p3 < p0 then 1 else 0) = (0 : Nat) := if_neg (by rw [Int64.lt_iff_toInt_lt]; omega)
    have z4 : (if p4 < p0 then 1 else 0) = (0 : Nat) := if_neg (by rw [Int64.lt_iff_toInt_lt]; omega)
    generalize (if p0 < p0 then 1 else 0) = u0 at h z0
    generalize (if p1 < p0 then 1 else 0) = u1 at h z1
    generalize (if p2 < p0 then 1 else 0) = u2 at h z2
    generalize (if p3 < p0 then 1 else 0) = u3 at h z3
    generalize (if p4 < p0 then 1 else 0) = u4 at h z4
    generalize (if s0 < p0 then 1 else 0) = w0 at h o0
    generalize (if s1 < p0 then 1 else 0) = w1 at h
    generalize (if s2 < p0 then 1 else 0) = w2 at h
    generalize (if s3 < p0 then 1 else 0) = w3 at h
    generalize (if s4 < p0 then 1 else 0) = w4 at h
    omega
  · refine Int.not_lt.mp (fun hlt => ?_)
    have h : (if p0 < p1 then 1 else 0) + (if p1 < p1 then 1 else 0) + (if p2 < p1 then 1 else 0) + (if p3 < p1 then 1 else 0) + (if p4 < p1 then 1 else 0) = (if s0 < p1 then 1 else 0) + (if s1 < p1 then 1 else 0) + (if s2 < p1 then 1 else 0) + (if s3 < p1 then 1 else 0) + (if s4 < p1 then 1 else 0) := hc (fun x => if x < p1 then 1 else 0)
    have z0 : (if p0 < p1 then 1 else 0) ≤ (1 : Nat) := by split <;> omega
    have o0 : (if s0 < p1 then 1 else 0) = (1 : Nat) := if_pos (by rw [Int64.lt_iff_toInt_lt]; omega)
    have z1 : (if p1 < p1 then 1 else 0) = (0 : Nat) := if_neg (by rw [Int64.lt_iff_toInt_lt]; omega)
    have o1 : (if s1 < p1 then 1 else 0) = (1 : Nat) := if_pos (by rw [Int64.lt_iff_toInt_lt]; omega)
    have z2 : (if p2 < p1 then 1 else 0) = (0 : Nat) := if_neg (by rw [Int64.lt_iff_toInt_lt]; omega)
    have z3 : (if p3 < p1 then 1 else 0) = (0 : Nat) := if_neg (by rw [Int64.lt_iff_toInt_lt]; omega)
    have z4 : (if p4 < p1 then 1 else 0) = (0 : Nat) := if_neg (by rw [Int64.lt_iff_toInt_lt]; omega)
    generalize (if p0 < p1 then 1 else 0) = u0 at h z0
    generalize (if p1 < p1 then 1 else 0) = u1 at h z1
    generalize (if p2 < p1 then 1 else 0) = u2 at h z2
    generalize (if p3 < p1 then 1 else 0) = u3 at h z3
    generalize (if p4 < p1 then 1 else 0) = u4 at h z4
    generalize (if s0 < p1 then 1 else 0) = w0 at h o0
    generalize (if s1 < p1 then 1 else 0) = w1 at h o1
    generalize (if s2 < p1 then 1 else 0) = w2 at h
    generalize (if s3 < p1 then 1 else 0) = w3 at h
    generalize (if s4 < p1 then 1 else 0) = w4 at h
    omega
  · refine Int.not_lt.mp (fun hlt => ?_)
    have h : (if p0 < p2 then 1 else 0) + (if p1 < p2 then 1 else 0) + (if p2 < p2 then 1 else 0) + (if p3 < p2 then 1 else 0) + (if p4 < p2 then 1 else 0) = (if s0 < p2 then 1 else 0) + (if s1 < p2 then 1 else 0) + (if s2 < p2 then 1 else 0) + (if s3 < p2 then 1 else 0) + (if s4 < p2 then 1 else 0) := hc (fun x => if x < p2 then 1 else 0)
    have z0 : (if p0 < p2 then 1 else 0) ≤ (1 : Nat) := by split <;> omega
    have o0 : (if s0 < p2 then 1 else 0) = (1 : Nat) := if_pos (by rw [Int64.lt_iff_toInt_lt]; omega)
    have z1 : (if p1 < p2 then 1 else 0) ≤ (1 : Nat) := by split <;> omega
    have o1 : (if s1 < p2 then 1 else 0) = (1 : Nat) := if_pos (by rw [Int64.lt_iff_toInt_lt]; omega)
    have z2 : (if p2 < p2 then 1 else 0) = (0 : Nat) := if_neg (by rw [Int64.lt_iff_toInt_lt]; omega)
    have o2 : (if s2 < p2 then 1 else 0) = (1 : Nat) := if_pos (by rw [Int64.lt_iff_toInt_lt]; omega)
    have z3 : (if p3 < p2 then 1 else 0) = (0 : Nat) := if_neg (by rw [Int64.lt_iff_toInt_lt]; omega)
    have z4 : (if p4 < p2 then 1 else 0) = (0 : Nat) := if_neg (by rw [Int64.lt_iff_toInt_lt]; omega)
    generalize (if p0 < p2 then 1 else 0) = u0 at h z0
    generalize (if p1 < p2 then 1 else 0) = u1 at h z1
    generalize (if p2 < p2 then 1 else 0) = u2 at h z2
    generalize (if p3 < p2 then 1 else 0) = u3 at h z3
    generalize (if p4 < p2 then 1 else 0) = u4 at h z4
    generalize (if s0 < p2 then 1 else 0) = w0 at h o0
    generalize (if s1 < p2 then 1 else 0) = w1 at h o1
    generalize (if s2 < p2 then 1 else 0) = w2 at h o2
    generalize (if s3 < p2 then 1 else 0) = w3 at h
    generalize (if s4 < p2 then 1 else 0) = w4 at h
    omega
  · refine Int.not_lt.mp (fun hlt => ?_)
    have h : (if p0 < p3 then 1 else 0) + (if p1 < p3 then 1 else 0) + (if p2 < p3 then 1 else 0) + (if p3 < p3 then 1 else 0) + (if p4 < p3 then 1 else 0) = (if s0 < p3 then 1 else 0) + (if s1 < p3 then 1 else 0) + (if s2 < p3 then 1 else 0) + (if s3 < p3 then 1 else 0) + (if s4 < p3 then 1 else 0) := hc (fun x => if x < p3 then 1 else 0)
    have z0 : (if p0 < p3 then 1 else 0) ≤ (1 : Nat) := by split <;> omega
    have o0 : (if s0 < p3 then 1 else 0) = (1 : Nat) := if_pos (by rw [Int64.lt_iff_toInt_lt]; omega)
    have z1 : (if p1 < p3 then 1 else 0) ≤ (1 : Nat) := by split <;> omega
    have o1 : (if s1 < p3 then 1 else 0) = (1 : Nat) := if_pos (by rw [Int64.lt_iff_toInt_lt]; omega)
    have z2 : (if p2 < p3 then 1 else 0) ≤ (1 : Nat) := by split <;> omega
    have o2 : (if s2 < p3 then 1 else 0) = (1 : Nat) := if_pos (by rw [Int64.lt_iff_toInt_lt]; omega)
    have z3 : (if p3 < p3 then 1 else 0) = (0 : Nat) := if_neg (by rw [Int64.lt_iff_toInt_lt]; omega)
    have o3 : (if s3 < p3 then 1 else 0) = (1 : Nat) := if_pos (by rw [Int64.lt_iff_toInt_lt]; omega)
    have z4 : (if p4 < p3 then 1 else 0) = (0 : Nat) := if_neg (by rw [Int64.lt_iff_toInt_lt]; omega)
    generalize (if p0 < p3 then 1 else 0) = u0 at h z0
    generalize (if p1 < p3 then 1 else 0) = u1 at h z1
    generalize (if p2 < p3 then 1 else 0) = u2 at h z2
    generalize (if p3 < p3 then 1 else 0) = u3 at h z3
    generalize (if p4 < p3 then 1 else 0) = u4 at h z4
    generalize (if s0 < p3 then 1 else 0) = w0 at h o0
    generalize (if s1 < p3 then 1 else 0) = w1 at h o1
    generalize (if s2 < p3 then 1 else 0) = w2 at h o2
    generalize (if s3 < p3 then 1 else 0) = w3 at h o3
    generalize (if s4 < p3 then 1 else 0) = w4 at h
    omega
  · refine Int.not_lt.mp (fun hlt => ?_)
    have h : (if p0 < p4 then 1 else 0) + (if p1 < p4 then 1 else 0) + (if p2 < p4 then 1 else 0) + (if p3 < p4 then 1 else 0) + (if p4 < p4 then 1 else 0) = (if s0 < p4 then 1 else 0) + (if s1 < p4 then 1 else 0) + (if s2 < p4 then 1 else 0) + (if s3 < p4 then 1 else 0) + (if s4 < p4 then 1 else 0) := hc (fun x => if x < p4 then 1 else 0)
    have z0 : (if p0 < p4 then 1 else 0) ≤ (1 : Nat) := by split <;> omega
    have o0 : (if s0 < p4 then 1 else 0) = (1 : Nat) := if_pos (by rw [Int64.lt_iff_toInt_lt]; omega)
    have z1 : (if p1 < p4 then 1 else 0) ≤ (1 : Nat) := by split <;> omega
    have o1 : (if s1 < p4 then 1 else 0) = (1 : Nat) := if_pos (by rw [Int64.lt_iff_toInt_lt]; omega)
    have z2 : (if p2 < p4 then 1 else 0) ≤ (1 : Nat) := by split <;> omega
    have o2 : (if s2 < p4 then 1 else 0) = (1 : Nat) := if_pos (by rw [Int64.lt_iff_toInt_lt]; omega)
    have z3 : (if p3 < p4 then 1 else 0) ≤ (1 : Nat) := by split <;> omega
    have o3 : (if s3 < p4 then 1 else 0) = (1 : Nat) := if_pos (by rw [Int64.lt_iff_toInt_lt]; omega)
    have z4 : (if p4 < p4 then 1 else 0) = (0 : Nat) := if_neg (by rw [Int64.lt_iff_toInt_lt]; omega)
    have o4 : (if s4 < p4 then 1 else 0) = (1 : Nat) := if_pos (by rw [Int64.lt_iff_toInt_lt]; omega)
    generalize (if p0 < p4 then 1 else 0) = u0 at h z0
    generalize (if p1 < p4 then 1 else 0) = u1 at h z1
    generalize (if p2 < p4 then 1 else 0) = u2 at h z2
    generalize (if p3 < p4 then 1 else 0) = u3 at h z3
    generalize (if p4 < p4 then 1 else 0) = u4 at h z4
    generalize (if s0 < p4 then 1 else 0) = w0 at h o0
    generalize (if s1 < p4 then 1 else 0) = w1 at h o1
    generalize (if s2 < p4 then 1 else 0) = w2 at h o2
    generalize (if s3 < p4 then 1 else 0) = w3 at h o3
    generalize (if s4 < p4 then 1 else 0) = w4 at h o4
    omega
theorem own_law (a b c d e : Int64) (f0 : Nat → Int64) {f1 f2 f3 f4 f5 f6 f7 f8 f9 f10 s0 s1 s2 s3 s4 s5 s6 s7 s8 s9 : Nat → Int64} (h1 : f1 = own_up a 0 0 f0) (h2 : f2 = own_up b 1 1 f1) (h3 : f3 = own_up c 2 2 f2) (h4 : f4 = own_up d 3 3 f3) (h5 : f5 = own_up e 4 4 f4) (h6 : f6 = own_down (f5 4) 4 4 0 1 f5) (h7 : f7 = own_down (f6 3) 3 3 0 1 f6) (h8 : f8 = own_down (f7 2) 2 2 0 1 f7) (h9 : f9 = own_down (f8 1) 1 1 0 1 f8) (h10 : f10 = own_down (f9 0) 0 0 0 1 f9) (g0 : s0 = upd (upd (upd (upd (upd (fun _ => (0 : Int64)) 0 a) 1 b) 2 c) 3 d) 4 e) (g1 : s1 = own_cs s0 0 3) (g2 : s2 = own_cs s1 1 4) (g3 : s3 = own_cs s2 0 2) (g4 : s4 = own_cs s3 1 3) (g5 : s5 = own_cs s4 0 1) (g6 : s6 = own_cs s5 2 4) (g7 : s7 = own_cs s6 1 2) (g8 : s8 = own_cs s7 3 4) (g9 : s9 = own_cs s8 2 3) :
    f5 0 = s9 0 ∧ f6 0 = s9 1 ∧ f7 0 = s9 2 ∧ f8 0 = s9 3 ∧ f9 0 = s9 4 := by
  have w1 := own_p0 h1
  obtain ⟨a2, w2⟩ := own_p1 h2
  obtain ⟨a3, b3, w3⟩ := own_p2 h3 a2
  obtain ⟨a4, b4, c4, w4⟩ := own_p3 h4 a3 b3
  obtain ⟨a5, b5, c5, d5, w5⟩ := own_p4 h5 a4 b4 c4
  obtain ⟨a6, b6, c6, m60, m61, m62, m63, w6⟩ := own_q4 h6 a5 b5 c5 d5
  obtain ⟨a7, b7, m70, m71, m72, w7⟩ := own_q3 h7 a6 b6 c6
  obtain ⟨a8, m80, m81, w8⟩ := own_q2 h8 a7 b7
  obtain ⟨m90, w9⟩ := own_q1 h9 a8
  have v0 : ∀ x : Int64 → Nat, own_sum x s0 = x a + x b + x c + x d + x e := fun x => by subst g0; simp [own_sum, upd]
  have v1 : ∀ x : Int64 → Nat, own_sum x s1 = own_sum x s0 := fun x => by rw [g1]; exact own_s03 x s0
  have v2 : ∀ x : Int64 → Nat, own_sum x s2 = own_sum x s1 := fun x => by rw [g2]; exact own_s14 x s1
  have v3 : ∀ x : Int64 → Nat, own_sum x s3 = own_sum x s2 := fun x => by rw [g3]; exact own_s02 x s2
  have v4 : ∀ x : Int64 → Nat, own_sum x s4 = own_sum x s3 := fun x => by rw [g4]; exact own_s13 x s3
  have v5 : ∀ x : Int64 → Nat, own_sum x s5 = own_sum x s4 := fun x => by rw [g5]; exact own_s01 x s4
  have v6 : ∀ x : Int64 → Nat, own_sum x s6 = own_sum x s5 := fun x => by rw [g6]; exact own_s24 x s5
  have v7 : ∀ x : Int64 → Nat, own_sum x s7 = own_sum x s6 := fun x => by rw [g7]; exact own_s12 x s6
  have v8 : ∀ x : Int64 → Nat, own_sum x s8 = own_sum x s7 := fun x => by rw [g8]; exact own_s34 x s7
  have v9 : ∀ x : Int64 → Nat, own_sum x s9 = own_sum x s8 := fun x => by rw [g9]; exact own_s23 x s8
  have srt : ∀ z : Int64, (own_at z s9 0 = true → own_at z s9 1 = true) ∧ (own_at z s9 1 = true → own_at z s9 2 = true) ∧ (own_at z s9 2 = true → own_at z s9 3 = true) ∧ (own_at z s9 3 = true → own_at z s9 4 = true) := fun z => by
    have q0 : own_k0 (own_at z s0 0) (own_at z s0 1) (own_at z s0 2) (own_at z s0 3) (own_at z s0 4) = true := own_check _ _ _ _ _
    have q1 : own_k1 (own_at z s1 0) (own_at z s1 1) (own_at z s1 2) (own_at z s1 3) (own_at z s1 4) = true := by rw [g1, own_cs_at z s0 (i := 0) (j := 3) (by decide)]; exact q0
    have q2 : own_k2 (own_at z s2 0) (own_at z s2 1) (own_at z s2 2) (own_at z s2 3) (own_at z s2 4) = true := by rw [g2, own_cs_at z s1 (i := 1) (j := 4) (by decide)]; exact q1
    have q3 : own_k3 (own_at z s3 0) (own_at z s3 1) (own_at z s3 2) (own_at z s3 3) (own_at z s3 4) = true := by rw [g3, own_cs_at z s2 (i := 0) (j := 2) (by decide)]; exact q2
    have q4 : own_k4 (own_at z s4 0) (own_at z s4 1) (own_at z s4 2) (own_at z s4 3) (own_at z s4 4) = true := by rw [g4, own_cs_at z s3 (i := 1) (j := 3) (by decide)]; exact q3
    have q5 : own_k5 (own_at z s5 0) (own_at z s5 1) (own_at z s5 2) (own_at z s5 3) (own_at z s5 4) = true := by rw [g5, own_cs_at z s4 (i := 0) (j := 1) (by decide)]; exact q4
    have q6 : own_k6 (own_at z s6 0) (own_at z s6 1) (own_at z s6 2) (own_at z s6 3) (own_at z s6 4) = true := by rw [g6, own_cs_at z s5 (i := 2) (j := 4) (by decide)]; exact q5
    have q7 : own_k7 (own_at z s7 0) (own_at z s7 1) (own_at z s7 2) (own_at z s7 3) (own_at z s7 4) = true := by rw [g7, own_cs_at z s6 (i := 1) (j := 2) (by decide)]; exact q6
    have q8 : own_k8 (own_at z s8 0) (own_at z s8 1) (own_at z s8 2) (own_at z s8 3) (own_at z s8 4) = true := by rw [g8, own_cs_at z s7 (i := 3) (j := 4) (by decide)]; exact q7
    have q9 : own_k9 (own_at z s9 0) (own_at z s9 1) (own_at z s9 2) (own_at z s9 3) (own_at z s9 4) = true := by rw [g9, own_cs_at z s8 (i := 2) (j := 3) (by decide)]; exact q8
    exact own_k9s _ _ _ _ _ q9
  have t0 : (s9 0).toInt ≤ (s9 1).toInt := by
    have q := (srt (s9 0)).1 (decide_eq_true (Int64.le_iff_toInt_le.mpr (Int.le_refl _)))
    exact Int64.le_iff_toInt_le.mp (of_decide_eq_true q)
  have t1 : (s9 1).toInt ≤ (s9 2).toInt := by
    have q := (srt (s9 1)).2.1 (decide_eq_true (Int64.le_iff_toInt_le.mpr (Int.le_refl _)))
    exact Int64.le_iff_toInt_le.mp (of_decide_eq_true q)
  have t2 : (s9 2).toInt ≤ (s9 3).toInt := by
    have q := (srt (s9 2)).2.2.1 (decide_eq_true (Int64.le_iff_toInt_le.mpr (Int.le_refl _)))
    exact Int64.le_iff_toInt_le.mp (of_decide_eq_true q)
  have t3 : (s9 3).toInt ≤ (s9 4).toInt := by
    have q := (srt (s9 3)).2.2.2 (decide_eq_true (Int64.le_iff_toInt_le.mpr (Int.le_refl _)))
    exact Int64.le_iff_toInt_le.mp (of_decide_eq_true q)
  have hc : ∀ x : Int64 → Nat, x (f5 0) + x (f6 0) + x (f7 0) + x (f8 0) + x (f9 0) = x (s9 0) + x (s9 1) + x (s9 2) + x (s9 3) + x (s9 4) := fun x => by
    have y1 := w1 x; have y2 := w2 x; have y3 := w3 x; have y4 := w4 x; have y5 := w5 x; have y6 := w6 x; have y7 := w7 x; have y8 := w8 x; have y9 := w9 x
    have z0 := v0 x
    have z1 := v1 x
    have z2 := v2 x
    have z3 := v3 x
    have z4 := v4 x
    have z5 := v5 x
    have z6 := v6 x
    have z7 := v7 x
    have z8 := v8 x
    have z9 := v9 x
    have z9e : own_sum x s9 = x (s9 0) + x (s9 1) + x (s9 2) + x (s9 3) + x (s9 4) := rfl
    omega
  obtain ⟨r0, r1, r2, r3, r4⟩ := own_le _ _ _ _ _ _ _ _ _ _ m60 m70 m80 m90 t0 t1 t2 t3 hc
  obtain ⟨u0, u1, u2, u3, u4⟩ := own_le _ _ _ _ _ _ _ _ _ _ t0 t1 t2 t3 m60 m70 m80 m90 (fun x => (hc x).symm)
  exact ⟨Int64.toInt_inj.mp (by omega), Int64.toInt_inj.mp (by omega), Int64.toInt_inj.mp (by omega), Int64.toInt_inj.mp (by omega), Int64.toInt_inj.mp (by omega)⟩
theorem pd_0 : parseMethodDescriptor "()V" = some ⟨[], none⟩ := by decide +kernel
theorem pd_1 : parseMethodDescriptor "(J)V" = some ⟨[.long], none⟩ := by decide +kernel
theorem pd_2 : parseMethodDescriptor "()J" = some ⟨[], some .long⟩ := by decide +kernel
theorem pd_3 : parseMethodDescriptor "([JII)V" = some ⟨[(.array .long), .int, .int], none⟩ := by decide +kernel
/-- the heap object o: its array t, its size k -/
def Hp (Z : State) (h : Heap) (o t : Nat) (k : Nat) : Prop := Exa Z h o "com/example/libperturb/libperturb/solver/MinHeap" ∧ Fld Z h o "com/example/libperturb/libperturb/solver/MinHeap" "keys" "[J" (.ref t) ∧ Fld Z h o "com/example/libperturb/libperturb/solver/MinHeap" "size" "I" (.int (Int32.ofNat k))
theorem Hp.wr {Z : State} {h h' : Heap} {o t : Nat} {k sl : Nat} {v : Value} (H : Hp Z h o t k) (W : Wr h h' t sl v) (q : o ≠ t) : Hp Z h' o t k := ⟨H.1.wr W, H.2.1.other W (Or.inl q), H.2.2.other W (Or.inl q)⟩
theorem d1_0 : decode prog_48_method_1_code 0 = .ok (.aload_n 0, 1) := by decide +kernel
theorem d1_1 : decode prog_48_method_1_code 1 = .ok (.invokespecial 1, 3) := by decide +kernel
theorem d1_4 : decode prog_48_method_1_code 4 = .ok (.aload_n 0, 1) := by decide +kernel
theorem d1_5 : decode prog_48_method_1_code 5 = .ok (.bipush 16, 2) := by decide +kernel
theorem d1_7 : decode prog_48_method_1_code 7 = .ok (.newarray .long, 2) := by decide +kernel
theorem d1_9 : decode prog_48_method_1_code 9 = .ok (.putfield 7, 3) := by decide +kernel
theorem d1_12 : decode prog_48_method_1_code 12 = .ok (.return_, 1) := by decide +kernel
theorem pn_1 : plainName "com/example/libperturb/libperturb/solver/MinHeap" = true := by first | (simp [plainName, overriddenIn]; done) | decide +kernel
theorem ef_1 (m : MethodId) (x0 : Nat) : entryFrame m #[(.ref x0)] 1 = mkF m 0 #[.val (.ref x0)] [] := by first | (simp [entryFrame, mkF, argsToLocals, Value.category]; done) | rfl
def Q1 (Z : State) (o : Nat) (h0 : Heap) (n0 : Nat) (v : Option Value) (h : Heap) (L : List Loc) : Prop := ∃ t : Nat, v = none ∧ Fr n0 L ∧ n0 ≤ t ∧ o ≠ t ∧ n0 ≤ h.size ∧ Hp Z h o t 0 ∧ VA Z h t .long 16 (fun _ => .long (0 : Int64))
set_option maxRecDepth 65536 in
set_option maxHeartbeats 40000000 in
theorem rm1 (l : Launch) (Z : State) (a0 : Array Value) (hw : ∀ d ∈ tables_1, d.before a0 Z = true) (ws : List Jvm.Cond) (o : Nat) (h0 : Heap) (n0 : Nat) (Z0 : n0 ≤ h0.size) (E : Exa Z h0 o "com/example/libperturb/libperturb/solver/MinHeap") (F1 : Fld Z h0 o "com/example/libperturb/libperturb/solver/MinHeap" "keys" "[J" .null) (F2 : Fld Z h0 o "com/example/libperturb/libperturb/solver/MinHeap" "size" "I" (.int (0 : Int32))) (go : n0 ≤ o) :
    Meets l Z (⟨"com/example/libperturb/libperturb/solver/MinHeap", "<init>", "()V"⟩ : MethodName) prog_48_method_1_code 1 none ws ({ frames := 1, cells := 1, slots := 16, locals := 12 } : Room) #[(.ref o)] h0 1 16 (Q1 Z o h0 n0) := by
  refine own_meets (plainFor_of_name pn_1) ?_
  intro p e s m below meth c s₁ hx hZ hby hml hown hnm hret hlk X0 e0
  have hown : s.vm.findClass "com/example/libperturb/libperturb/solver/MinHeap" = some m.cls := hown
  have hnm : meth.name = "<init>" := hnm
  refine own_finV (l := l) (R := ({ frames := 1, cells := 1, slots := 16, locals := 12 } : Room)) (m := m) (args := #[(.ref o)]) (c := c) hx hret hlk ?_
  refine own_cast (ef_1 m o) ?_
  refine own_st (g1 := (mkF m 1 #[.val (.ref o)] [(.ref o)])) (fun zt zk => XS.aloadN X0.here hx rfl (hb hby d1_0) rfl rfl zk) ?_
  obtain ⟨T1, X1, e1, st1⟩ := initO X0 hx hZ hown (hw _ (List.mem_of_getElem? (i := 6) rfl)) (hw _ (List.mem_of_getElem? (i := 7) rfl)) (hw _ (List.mem_of_getElem? (i := 8) rfl)) e0 (g := (mkF m 1 #[.val (.ref o)] [(.ref o)])) rfl (by rw [hml]; rfl) rfl (hb hby d1_1) (by decide) (W := 0) (by show 2 * 0 + _ ≤ _; exact Nat.le_of_eq rfl) (by decide)
  refine own_st (g1 := (mkF m 4 #[.val (.ref o)] [])) (st1) ?_
  refine own_st (g1 := (mkF m 5 #[.val (.ref o)] [(.ref o)])) (fun zt zk => XS.aloadN X1.here hx rfl (hb hby d1_4) rfl rfl zk) ?_
  refine own_st (g1 := (mkF m 7 #[.val (.ref o)] [(.int (16 : Int32)), (.ref o)])) (fun zt zk => XS.bipush X1.here hx rfl (hb hby d1_5) zk) ?_
  obtain ⟨T2, h2, k2, X2, e2, E2, A2, st2⟩ := newP X1 hx hZ (hw _ (List.mem_of_getElem? (i := 9) rfl)) e1 (g := (mkF m 7 #[.val (.ref o)] [(.int (16 : Int32)), (.ref o)])) rfl (hb hby d1_7) rfl (by decide) (cap := 16) (by decide) (by decide) (by decide) (by decide)
  obtain ⟨b2, g2⟩ : ∃ z, z = h0.size := ⟨_, rfl⟩
  rw [← g2] at A2 st2
  refine own_st (g1 := (mkF m 9 #[.val (.ref o)] [(.ref b2), (.ref o)])) (st2) ?_
  have V : VA Z h2 b2 .long 16 (fun _ => .long (0 : Int64)) := VA.new A2 rfl
  have hne : o ≠ b2 := by have := own_el E; omega
  have gb : n0 ≤ b2 := by omega
  obtain ⟨T3, h3, X3, e3, W3, st3⟩ := putF X2 hx hZ hown (host := "") (Or.inl (hw _ (List.mem_of_getElem? (i := 10) rfl))) Via.refl e2 (F1.ext E2) (E.ext E2) (Or.inl (hw _ (List.mem_of_getElem? (i := 11) rfl))) (hw _ (List.mem_of_getElem? (i := 1) rfl)) (ty := (.array .long)) (by decide) rfl rfl (g := (mkF m 9 #[.val (.ref o)] [(.ref b2), (.ref o)])) rfl rfl (hb hby d1_9)
  refine own_st (g1 := (mkF m 12 #[.val (.ref o)] [])) (st3) ?_
  have Zb : n0 ≤ h3.size := by rw [Wr.size W3]; exact Nat.le_trans Z0 E2.1
  have F1b := (F1.ext E2).same W3
  have F2b := (F2.ext E2).other W3 (Or.inr (slot_ne (Or.inl (hw _ (List.mem_of_getElem? (i := 18) rfl))) (Or.inl (hw _ (List.mem_of_getElem? (i := 11) rfl))) (by decide) (t := .int) (t' := (.array .long)) (by decide) (by decide)))
  have Eb := (E.ext E2).wr W3
  have Nb := Fr.snoc X3 (Fr.nil n0) go
  have Vb := V.other W3 (Ne.symm hne)
  exact own_here X3 ⟨12, _, rfl, (hb hby d1_12), (by decide), (by decide), (by rw [e3]; exact ⟨b2, rfl, Nb, gb, hne, Zb, ⟨Eb, F1b, F2b⟩, Vb⟩)⟩
theorem d3_0 : decode prog_48_method_3_code 0 = .ok (.aload_n 0, 1) := by decide +kernel
theorem d3_1 : decode prog_48_method_3_code 1 = .ok (.getfield 13, 3) := by decide +kernel
theorem d3_4 : decode prog_48_method_3_code 4 = .ok (.aload_n 0, 1) := by decide +kernel
theorem d3_5 : decode prog_48_method_3_code 5 = .ok (.getfield 7, 3) := by decide +kernel
theorem d3_8 : decode prog_48_method_3_code 8 = .ok (.arraylength, 1) := by decide +kernel
theorem d3_9 : decode prog_48_method_3_code 9 = .ok (.if_icmp .ne 20, 3) := by decide +kernel
theorem d3_29 : decode prog_48_method_3_code 29 = .ok (.aload_n 0, 1) := by decide +kernel
theorem d3_30 : decode prog_48_method_3_code 30 = .ok (.dup, 1) := by decide +kernel
theorem d3_31 : decode prog_48_method_3_code 31 = .ok (.getfield 13, 3) := by decide +kernel
theorem d3_34 : decode prog_48_method_3_code 34 = .ok (.dup_x1, 1) := by decide +kernel
theorem d3_35 : decode prog_48_method_3_code 35 = .ok (.iconst 1, 1) := by decide +kernel
theorem d3_36 : decode prog_48_method_3_code 36 = .ok (.iadd, 1) := by decide +kernel
theorem d3_37 : decode prog_48_method_3_code 37 = .ok (.putfield 13, 3) := by decide +kernel
theorem d3_40 : decode prog_48_method_3_code 40 = .ok (.istore_n 3, 1) := by decide +kernel
theorem d3_41 : decode prog_48_method_3_code 41 = .ok (.iload_n 3, 1) := by decide +kernel
theorem d3_42 : decode prog_48_method_3_code 42 = .ok (.ifCond .le 43, 3) := by decide +kernel
theorem d3_45 : decode prog_48_method_3_code 45 = .ok (.aload_n 0, 1) := by decide +kernel
theorem d3_46 : decode prog_48_method_3_code 46 = .ok (.getfield 7, 3) := by decide +kernel
theorem d3_49 : decode prog_48_method_3_code 49 = .ok (.iload_n 3, 1) := by decide +kernel
theorem d3_50 : decode prog_48_method_3_code 50 = .ok (.iconst 1, 1) := by decide +kernel
theorem d3_51 : decode prog_48_method_3_code 51 = .ok (.isub, 1) := by decide +kernel
theorem d3_52 : decode prog_48_method_3_code 52 = .ok (.iconst 2, 1) := by decide +kernel
theorem d3_53 : decode prog_48_method_3_code 53 = .ok (.idiv, 1) := by decide +kernel
theorem d3_54 : decode prog_48_method_3_code 54 = .ok (.laload, 1) := by decide +kernel
theorem d3_55 : decode prog_48_method_3_code 55 = .ok (.lload_n 1, 1) := by decide +kernel
theorem d3_56 : decode prog_48_method_3_code 56 = .ok (.lcmp, 1) := by decide +kernel
theorem d3_57 : decode prog_48_method_3_code 57 = .ok (.ifCond .le 28, 3) := by decide +kernel
theorem d3_60 : decode prog_48_method_3_code 60 = .ok (.aload_n 0, 1) := by decide +kernel
theorem d3_61 : decode prog_48_method_3_code 61 = .ok (.getfield 7, 3) := by decide +kernel
theorem d3_64 : decode prog_48_method_3_code 64 = .ok (.iload_n 3, 1) := by decide +kernel
theorem d3_65 : decode prog_48_method_3_code 65 = .ok (.aload_n 0, 1) := by decide +kernel
theorem d3_66 : decode prog_48_method_3_code 66 = .ok (.getfield 7, 3) := by decide +kernel
theorem d3_69 : decode prog_48_method_3_code 69 = .ok (.iload_n 3, 1) := by decide +kernel
theorem d3_70 : decode prog_48_method_3_code 70 = .ok (.iconst 1, 1) := by decide +kernel
theorem d3_71 : decode prog_48_method_3_code 71 = .ok (.isub, 1) := by decide +kernel
theorem d3_72 : decode prog_48_method_3_code 72 = .ok (.iconst 2, 1) := by decide +kernel
theorem d3_73 : decode prog_48_method_3_code 73 = .ok (.idiv, 1) := by decide +kernel
theorem d3_74 : decode prog_48_method_3_code 74 = .ok (.laload, 1) := by decide +kernel
theorem d3_75 : decode prog_48_method_3_code 75 = .ok (.lastore, 1) := by decide +kernel
theorem d3_76 : decode prog_48_method_3_code 76 = .ok (.iload_n 3, 1) := by decide +kernel
theorem d3_77 : decode prog_48_method_3_code 77 = .ok (.iconst 1, 1) := by decide +kernel
theorem d3_78 : decode prog_48_method_3_code 78 = .ok (.isub, 1) := by decide +kernel
theorem d3_79 : decode prog_48_method_3_code 79 = .ok (.iconst 2, 1) := by decide +kernel
theorem d3_80 : decode prog_48_method_3_code 80 = .ok (.idiv, 1) := by decide +kernel
theorem d3_81 : decode prog_48_method_3_code 81 = .ok (.istore_n 3, 1) := by decide +kernel
theorem d3_82 : decode prog_48_method_3_code 82 = .ok (.goto (-41), 3) := by decide +kernel
theorem d3_85 : decode prog_48_method_3_code 85 = .ok (.aload_n 0, 1) := by decide +kernel
theorem d3_86 : decode prog_48_method_3_code 86 = .ok (.getfield 7, 3) := by decide +kernel
theorem d3_89 : decode prog_48_method_3_code 89 = .ok (.iload_n 3, 1) := by decide +kernel
theorem d3_90 : decode prog_48_method_3_code 90 = .ok (.lload_n 1, 1) := by decide +kernel
theorem d3_91 : decode prog_48_method_3_code 91 = .ok (.lastore, 1) := by decide +kernel
theorem d3_92 : decode prog_48_method_3_code 92 = .ok (.return_, 1) := by decide +kernel
theorem pn_3 : plainName "com/example/libperturb/libperturb/solver/MinHeap" = true := by first | (simp [plainName, overriddenIn]; done) | decide +kernel
theorem ef_3 (m : MethodId) (x0 : Nat) (x1 : Int64) : entryFrame m #[(.ref x0), (.long x1)] 4 = mkF m 0 #[.val (.ref x0), .val (.long x1), .second, .unset] [] := by first | (simp [entryFrame, mkF, argsToLocals, Value.category]; done) | rfl
set_option maxRecDepth 65536 in
set_option maxHeartbeats 40000000 in
theorem loop3 {p : Program} {l : Launch} {e : Env} {R : Room} {s : State} {m : MethodId} {args : Array Value} {below : List Frame} {meth : Method} {c : Code} {Z : State} {a0 : Array Value} (hx : p.tables.exec = Jvm.exec) (hZ : Z.Warmed39 s.vm) (hw : ∀ d ∈ tables_1, d.before a0 Z = true) (hby : c.code = prog_48_method_3_code) (hml : c.maxLocals = 4) (hown : s.vm.findClass "com/example/libperturb/libperturb/solver/MinHeap" = some m.cls) (hnm : meth.name = "push") (o t : Nat) (x : Int64) (n0 sz : Nat) (hot : o ≠ t) (gt : n0 ≤ t) {cells slots : Nat} :
    ∀ (k i : Nat) (f : Nat → Int64) (T0 : State) (L0 : List Loc) (h : Heap), i ≤ k → i < 16 → Stand p l e R s m args below meth c T0 L0 cells slots → T0.heap = h → n0 ≤ h.size → Fr n0 L0 → Hp Z h o t sz → VA Z h t .long 16 (fun j => .long (f j)) →
      Goes p l e R s m args below meth c T0 (mkF m 41 #[.val (.ref o), .val (.long x), .second, .val (.int (Int32.ofNat i))] []) (fun T' L' k' n' g' => k' = cells ∧ n' = slots ∧ (∃ i' : Int32, g' = (mkF m 92 #[.val (.ref o), .val (.long x), .second, .val (.int i')] [])) ∧ Fr n0 L' ∧ n0 ≤ T'.heap.size ∧ Hp Z T'.heap o t sz ∧ VA Z T'.heap t .long 16 (fun j => .long (own_up x k i f j))) := by
  intro k
  induction k with
  | zero =>
    intro i f T0 L0 h hik hi X e0 hz N H V
    have hi0 : i = 0 := by omega
    subst hi0
    refine own_st (g1 := (mkF m 42 #[.val (.ref o), .val (.long x), .second, .val (.int (Int32.ofNat 0))] [(.int (Int32.ofNat 0))])) (fun zt zk => XS.iloadN X.here hx rfl (hb hby d3_41) rfl zk) ?_
    refine own_st (g1 := (mkF m 85 #[.val (.ref o), .val (.long x), .second, .val (.int (Int32.ofNat 0))] [])) (fun zt zk => XS.ifYes X.here hx rfl (pc0 := 42) (pc' := 85) rfl (hb hby d3_42) rfl ((if0 _ _).trans (flt (by decide)).2.2.2) (by decide) (by decide) zk) ?_
    refine own_st (g1 := (mkF m 86 #[.val (.ref o), .val (.long x), .second, .val (.int (Int32.ofNat 0))] [(.ref o)])) (fun zt zk => XS.aloadN X.here hx rfl (hb hby d3_85) rfl rfl zk) ?_
    obtain ⟨T4, X4, e4, st4⟩ := getF X hx hZ hown (host := "") (Or.inl (hw _ (List.mem_of_getElem? (i := 10) rfl))) Via.refl e0 H.2.1 (g := (mkF m 86 #[.val (.ref o), .val (.long x), .second, .val (.int (Int32.ofNat 0))] [(.ref o)])) rfl rfl (hb hby d3_86)
    refine own_st (g1 := (mkF m 89 #[.val (.ref o), .val (.long x), .second, .val (.int (Int32.ofNat 0))] [(.ref t)])) (st4) ?_
    refine own_st (g1 := (mkF m 90 #[.val (.ref o), .val (.long x), .second, .val (.int (Int32.ofNat 0))] [(.int (Int32.ofNat 0)), (.ref t)])) (fun zt zk => XS.iloadN X4.here hx rfl (hb hby d3_89) rfl zk) ?_
    refine own_st (g1 := (mkF m 91 #[.val (.ref o), .val (.long x), .second, .val (.int (Int32.ofNat 0))] [(.long x), (.int (Int32.ofNat 0)), (.ref t)])) (fun zt zk => XS.lloadN X4.here hx rfl (hb hby d3_90) rfl zk) ?_
    obtain ⟨T5, h5, X5, e5, W5, st5⟩ := own_jst X4 hx hZ e4 V (j := 0) rfl (by omega) (by decide) (g := (mkF m 91 #[.val (.ref o), .val (.long x), .second, .val (.int (Int32.ofNat 0))] [(.long x), (.int (Int32.ofNat 0)), (.ref t)])) rfl rfl (hb hby d3_91)
    refine own_st (g1 := (mkF m 92 #[.val (.ref o), .val (.long x), .second, .val (.int (Int32.ofNat 0))] [])) (st5) ?_
    exact own_here X5 ⟨rfl, rfl, ⟨_, rfl⟩, Fr.snoc X5 N gt, by rw [e5, Wr.size W5]; exact hz, by rw [e5]; exact H.wr W5 hot, by rw [e5, own_up_zero]; exact V.setJ W5⟩
  | succ k ih =>
    intro i f T0 L0 h hik hi X e0 hz N H V
    by_cases hp : 0 < i
    · refine own_st (g1 := (mkF m 42 #[.val (.ref o), .val (.long x), .second, .val (.int (Int32.ofNat i))] [(.int (Int32.ofNat i))])) (fun zt zk => XS.iloadN X.here hx rfl (hb hby d3_41) rfl zk) ?_
      refine own_st (g1 := (mkF m 45 #[.val (.ref o), .val (.long x), .second, .val (.int (Int32.ofNat i))] [])) (fun zt zk => XS.ifNo X.here hx rfl (hb hby d3_42) rfl ((if0 _ _).trans (tlt ((own_lt (i := 0) (by omega) (by omega)).mpr hp)).2.2.2) zk) ?_
      refine own_st (g1 := (mkF m 46 #[.val (.ref o), .val (.long x), .second, .val (.int (Int32.ofNat i))] [(.ref o)])) (fun zt zk => XS.aloadN X.here hx rfl (hb hby d3_45) rfl rfl zk) ?_
      obtain ⟨T6, X6, e6, st6⟩ := getF X hx hZ hown (host := "") (Or.inl (hw _ (List.mem_of_getElem? (i := 10) rfl))) Via.refl e0 H.2.1 (g := (mkF m 46 #[.val (.ref o), .val (.long x), .second, .val (.int (Int32.ofNat i))] [(.ref o)])) rfl rfl (hb hby d3_46)
      refine own_st (g1 := (mkF m 49 #[.val (.ref o), .val (.long x), .second, .val (.int (Int32.ofNat i))] [(.ref t)])) (st6) ?_
      refine own_st (g1 := (mkF m 50 #[.val (.ref o), .val (.long x), .second, .val (.int (Int32.ofNat i))] [(.int (Int32.ofNat i)), (.ref t)])) (fun zt zk => XS.iloadN X6.here hx rfl (hb hby d3_49) rfl zk) ?_
      refine own_st (g1 := (mkF m 51 #[.val (.ref o), .val (.long x), .second, .val (.int (Int32.ofNat i))] [(.int (1 : Int32)), (.int (Int32.ofNat i)), (.ref t)])) (fun zt zk => XS.iconst X6.here hx rfl (hb hby d3_50) zk) ?_
      refine own_st (g1 := (mkF m 52 #[.val (.ref o), .val (.long x), .second, .val (.int (Int32.ofNat i))] [(.int ((Int32.ofNat i) - (1 : Int32))), (.ref t)])) (fun zt zk => XS.isub X6.here hx rfl (hb hby d3_51) rfl zk) ?_
      refine own_st (g1 := (mkF m 53 #[.val (.ref o), .val (.long x), .second, .val (.int (Int32.ofNat i))] [(.int (2 : Int32)), (.int ((Int32.ofNat i) - (1 : Int32))), (.ref t)])) (fun zt zk => XS.iconst X6.here hx rfl (hb hby d3_52) zk) ?_
      refine own_st (g1 := (mkF m 54 #[.val (.ref o), .val (.long x), .second, .val (.int (Int32.ofNat i))] [(.int (((Int32.ofNat i) - (1 : Int32)) / (2 : Int32))), (.ref t)])) (fun zt zk => XS.idiv X6.here hx rfl (hb hby d3_53) rfl (by decide) zk) ?_
      refine own_st (g1 := (mkF m 55 #[.val (.ref o), .val (.long x), .second, .val (.int (Int32.ofNat i))] [(.long (f ((i - 1) / 2)))])) (own_jld X6 hx hZ e6 V (j := ((i - 1) / 2)) (v := (.long (f ((i - 1) / 2)))) (own_half hp (by omega)) (by omega) (by decide) rfl (g := (mkF m 54 #[.val (.ref o), .val (.long x), .second, .val (.int (Int32.ofNat i))] [(.int (((Int32.ofNat i) - (1 : Int32)) / (2 : Int32))), (.ref t)])) rfl rfl (hb hby d3_54)) ?_
      refine own_st (g1 := (mkF m 56 #[.val (.ref o), .val (.long x), .second, .val (.int (Int32.ofNat i))] [(.long x), (.long (f ((i - 1) / 2)))])) (fun zt zk => XS.lloadN X6.here hx rfl (hb hby d3_55) rfl zk) ?_
      refine own_st (g1 := (mkF m 57 #[.val (.ref o), .val (.long x), .second, .val (.int (Int32.ofNat i))] [(.int (lcmpW (f ((i - 1) / 2)) x))])) (fun zt zk => XS.lcmp X6.here hx rfl (hb hby d3_56) rfl zk) ?_
      by_cases hc : x < (f ((i - 1) / 2))
      · refine own_st (g1 := (mkF m 60 #[.val (.ref o), .val (.long x), .second, .val (.int (Int32.ofNat i))] [])) (fun zt zk => XS.ifNo X6.here hx rfl (hb hby d3_57) rfl ((if0 _ _).trans (tlt ((lw_gt _ _).mpr hc)).2.2.2) zk) ?_
        refine own_st (g1 := (mkF m 61 #[.val (.ref o), .val (.long x), .second, .val (.int (Int32.ofNat i))] [(.ref o)])) (fun zt zk => XS.aloadN X6.here hx rfl (hb hby d3_60) rfl rfl zk) ?_
        obtain ⟨T7, X7, e7, st7⟩ := getF X6 hx hZ hown (host := "") (Or.inl (hw _ (List.mem_of_getElem? (i := 10) rfl))) Via.refl e6 H.2.1 (g := (mkF m 61 #[.val (.ref o), .val (.long x), .second, .val (.int (Int32.ofNat i))] [(.ref o)])) rfl rfl (hb hby d3_61)
        refine own_st (g1 := (mkF m 64 #[.val (.ref o), .val (.long x), .second, .val (.int (Int32.ofNat i))] [(.ref t)])) (st7) ?_
        refine own_st (g1 := (mkF m 65 #[.val (.ref o), .val (.long x), .second, .val (.int (Int32.ofNat i))] [(.int (Int32.ofNat i)), (.ref t)])) (fun zt zk => XS.iloadN X7.here hx rfl (hb hby d3_64) rfl zk) ?_
        refine own_st (g1 := (mkF m 66 #[.val (.ref o), .val (.long x), .second, .val (.int (Int32.ofNat i))] [(.ref o), (.int (Int32.ofNat i)), (.ref t)])) (fun zt zk => XS.aloadN X7.here hx rfl (hb hby d3_65) rfl rfl zk) ?_
        obtain ⟨T8, X8, e8, st8⟩ := getF X7 hx hZ hown (host := "") (Or.inl (hw _ (List.mem_of_getElem? (i := 10) rfl))) Via.refl e7 H.2.1 (g := (mkF m 66 #[.val (.ref o), .val (.long x), .second, .val (.int (Int32.ofNat i))] [(.ref o), (.int (Int32.ofNat i)), (.ref t)])) rfl rfl (hb hby d3_66)
        refine own_st (g1 := (mkF m 69 #[.val (.ref o), .val (.long x), .second, .val (.int (Int32.ofNat i))] [(.ref t), (.int (Int32.ofNat i)), (.ref t)])) (st8) ?_
        refine own_st (g1 := (mkF m 70 #[.val (.ref o), .val (.long x), .second, .val (.int (Int32.ofNat i))] [(.int (Int32.ofNat i)), (.ref t), (.int (Int32.ofNat i)), (.ref t)])) (fun zt zk => XS.iloadN X8.here hx rfl (hb hby d3_69) rfl zk) ?_
        refine own_st (g1 := (mkF m 71 #[.val (.ref o), .val (.long x), .second, .val (.int (Int32.ofNat i))] [(.int (1 : Int32)), (.int (Int32.ofNat i)), (.ref t), (.int (Int32.ofNat i)), (.ref t)])) (fun zt zk => XS.iconst X8.here hx rfl (hb hby d3_70) zk) ?_
        refine own_st (g1 := (mkF m 72 #[.val (.ref o), .val (.long x), .second, .val (.int (Int32.ofNat i))] [(.int ((Int32.ofNat i) - (1 : Int32))), (.ref t), (.int (Int32.ofNat i)), (.ref t)])) (fun zt zk => XS.isub X8.here hx rfl (hb hby d3_71) rfl zk) ?_
        refine own_st (g1 := (mkF m 73 #[.val (.ref o), .val (.long x), .second, .val (.int (Int32.ofNat i))] [(.int (2 : Int32)), (.int ((Int32.ofNat i) - (1 : Int32))), (.ref t), (.int (Int32.ofNat i)), (.ref t)])) (fun zt zk => XS.iconst X8.here hx rfl (hb hby d3_72) zk) ?_
        refine own_st (g1 := (mkF m 74 #[.val (.ref o), .val (.long x), .second, .val (.int (Int32.ofNat i))] [(.int (((Int32.ofNat i) - (1 : Int32)) / (2 : Int32))), (.ref t), (.int (Int32.ofNat i)), (.ref t)])) (fun zt zk => XS.idiv X8.here hx rfl (hb hby d3_73) rfl (by decide) zk) ?_
        refine own_st (g1 := (mkF m 75 #[.val (.ref o), .val (.long x), .second, .val (.int (Int32.ofNat i))] [(.long (f ((i - 1) / 2))), (.int (Int32.ofNat i)), (.ref t)])) (own_jld X8 hx hZ e8 V (j := ((i - 1) / 2)) (v := (.long (f ((i - 1) / 2)))) (own_half hp (by omega)) (by omega) (by decide) rfl (g := (mkF m 74 #[.val (.ref o), .val (.long x), .second, .val (.int (Int32.ofNat i))] [(.int (((Int32.ofNat i) - (1 : Int32)) / (2 : Int32))), (.ref t), (.int (Int32.ofNat i)), (.ref t)])) rfl rfl (hb hby d3_74)) ?_
        obtain ⟨T9, h9, X9, e9, W9, st9⟩ := own_jst X8 hx hZ e8 V (j := i) rfl (by omega) (by decide) (g := (mkF m 75 #[.val (.ref o), .val (.long x), .second, .val (.int (Int32.ofNat i))] [(.long (f ((i - 1) / 2))), (.int (Int32.ofNat i)), (.ref t)])) rfl rfl (hb hby d3_75)
        refine own_st (g1 := (mkF m 76 #[.val (.ref o), .val (.long x), .second, .val (.int (Int32.ofNat i))] [])) (st9) ?_
        refine own_st (g1 := (mkF m 77 #[.val (.ref o), .val (.long x), .second, .val (.int (Int32.ofNat i))] [(.int (Int32.ofNat i))])) (fun zt zk => XS.iloadN X9.here hx rfl (hb hby d3_76) rfl zk) ?_
        refine own_st (g1 := (mkF m 78 #[.val (.ref o), .val (.long x), .second, .val (.int (Int32.ofNat i))] [(.int (1 : Int32)), (.int (Int32.ofNat i))])) (fun zt zk => XS.iconst X9.here hx rfl (hb hby d3_77) zk) ?_
        refine own_st (g1 := (mkF m 79 #[.val (.ref o), .val (.long x), .second, .val (.int (Int32.ofNat i))] [(.int ((Int32.ofNat i) - (1 : Int32)))])) (fun zt zk => XS.isub X9.here hx rfl (hb hby d3_78) rfl zk) ?_
        refine own_st (g1 := (mkF m 80 #[.val (.ref o), .val (.long x), .second, .val (.int (Int32.ofNat i))] [(.int (2 : Int32)), (.int ((Int32.ofNat i) - (1 : Int32)))])) (fun zt zk => XS.iconst X9.here hx rfl (hb hby d3_79) zk) ?_
        refine own_st (g1 := (mkF m 81 #[.val (.ref o), .val (.long x), .second, .val (.int (Int32.ofNat i))] [(.int (((Int32.ofNat i) - (1 : Int32)) / (2 : Int32)))])) (fun zt zk => XS.idiv X9.here hx rfl (hb hby d3_80) rfl (by decide) zk) ?_
        rw [own_half hp (by omega)]
        refine own_st (g1 := (mkF m 82 #[.val (.ref o), .val (.long x), .second, .val (.int (Int32.ofNat ((i - 1) / 2)))] [])) (fun zt zk => XS.istoreN X9.here hx rfl (hb hby d3_81) rfl (l' := #[.val (.ref o), .val (.long x), .second, .val (.int (Int32.ofNat ((i - 1) / 2)))]) rfl zk) ?_
        refine own_st (g1 := (mkF m 41 #[.val (.ref o), .val (.long x), .second, .val (.int (Int32.ofNat ((i - 1) / 2)))] [])) (fun zt zk => XS.goto X9.here hx rfl (pc0 := 82) (pc' := 41) rfl (hb hby d3_82) (by decide) (by decide) zk) ?_
        refine own_bind (ih ((i - 1) / 2) (upd f i (f ((i - 1) / 2))) T9 _ h9 (by omega) (by omega) X9 e9 (by rw [Wr.size W9]; exact hz) (Fr.snoc X9 N gt) (H.wr W9 hot) (V.setJ W9)) ?_
        rintro T' L' k' n' g' X' ⟨r1, r2, r3, r4, r5, r6, r7⟩
        exact own_here X' ⟨r1, r2, r3, r4, r5, r6, by rw [own_up_yes hp hc]; exact r7⟩
      · refine own_st (g1 := (mkF m 85 #[.val (.ref o), .val (.long x), .second, .val (.int (Int32.ofNat i))] [])) (fun zt zk => XS.ifYes X6.here hx rfl (pc0 := 57) (pc' := 85) rfl (hb hby d3_57) rfl ((if0 _ _).trans (flt (fun q => hc ((lw_gt _ _).mp q))).2.2.2) (by decide) (by decide) zk) ?_
        refine own_st (g1 := (mkF m 86 #[.val (.ref o), .val (.long x), .second, .val (.int (Int32.ofNat i))] [(.ref o)])) (fun zt zk => XS.aloadN X6.here hx rfl (hb hby d3_85) rfl rfl zk) ?_
        obtain ⟨T10, X10, e10, st10⟩ := getF X6 hx hZ hown (host := "") (Or.inl (hw _ (List.mem_of_getElem? (i := 10) rfl))) Via.refl e6 H.2.1 (g := (mkF m 86 #[.val (.ref o), .val (.long x), .second, .val (.int (Int32.ofNat i))] [(.ref o)])) rfl rfl (hb hby d3_86)
        refine own_st (g1 := (mkF m 89 #[.val (.ref o), .val (.long x), .second, .val (.int (Int32.ofNat i))] [(.ref t)])) (st10) ?_
        refine own_st (g1 := (mkF m 90 #[.val (.ref o), .val (.long x), .second, .val (.int (Int32.ofNat i))] [(.int (Int32.ofNat i)), (.ref t)])) (fun zt zk => XS.iloadN X10.here hx rfl (hb hby d3_89) rfl zk) ?_
        refine own_st (g1 := (mkF m 91 #[.val (.ref o), .val (.long x), .second, .val (.int (Int32.ofNat i))] [(.long x), (.int (Int32.ofNat i)), (.ref t)])) (fun zt zk => XS.lloadN X10.here hx rfl (hb hby d3_90) rfl zk) ?_
        obtain ⟨T11, h11, X11, e11, W11, st11⟩ := own_jst X10 hx hZ e10 V (j := i) rfl (by omega) (by decide) (g := (mkF m 91 #[.val (.ref o), .val (.long x), .second, .val (.int (Int32.ofNat i))] [(.long x), (.int (Int32.ofNat i)), (.ref t)])) rfl rfl (hb hby d3_91)
        refine own_st (g1 := (mkF m 92 #[.val (.ref o), .val (.long x), .second, .val (.int (Int32.ofNat i))] [])) (st11) ?_
        exact own_here X11 ⟨rfl, rfl, ⟨_, rfl⟩, Fr.snoc X11 N gt, by rw [e11, Wr.size W11]; exact hz, by rw [e11]; exact H.wr W11 hot, by rw [e11, (own_up_no (x := x) (f := f) (i := i) (fun q => hc q.2))]; exact V.setJ W11⟩
    · have hi0 : i = 0 := by omega
      subst hi0
      refine own_st (g1 := (mkF m 42 #[.val (.ref o), .val (.long x), .second, .val (.int (Int32.ofNat 0))] [(.int (Int32.ofNat 0))])) (fun zt zk => XS.iloadN X.here hx rfl (hb hby d3_41) rfl zk) ?_
      refine own_st (g1 := (mkF m 85 #[.val (.ref o), .val (.long x), .second, .val (.int (Int32.ofNat 0))] [])) (fun zt zk => XS.ifYes X.here hx rfl (pc0 := 42) (pc' := 85) rfl (hb hby d3_42) rfl ((if0 _ _).trans (flt (by decide)).2.2.2) (by decide) (by decide) zk) ?_
      refine own_st (g1 := (mkF m 86 #[.val (.ref o), .val (.long x), .second, .val (.int (Int32.ofNat 0))] [(.ref o)])) (fun zt zk => XS.aloadN X.here hx rfl (hb hby d3_85) rfl rfl zk) ?_
      obtain ⟨T12, X12, e12, st12⟩ := getF X hx hZ hown (host := "") (Or.inl (hw _ (List.mem_of_getElem? (i := 10) rfl))) Via.refl e0 H.2.1 (g := (mkF m 86 #[.val (.ref o), .val (.long x), .second, .val (.int (Int32.ofNat 0))] [(.ref o)])) rfl rfl (hb hby d3_86)
      refine own_st (g1 := (mkF m 89 #[.val (.ref o), .val (.long x), .second, .val (.int (Int32.ofNat 0))] [(.ref t)])) (st12) ?_
      refine own_st (g1 := (mkF m 90 #[.val (.ref o), .val (.long x), .second, .val (.int (Int32.ofNat 0))] [(.int (Int32.ofNat 0)), (.ref t)])) (fun zt zk => XS.iloadN X12.here hx rfl (hb hby d3_89) rfl zk) ?_
      refine own_st (g1 := (mkF m 91 #[.val (.ref o), .val (.long x), .second, .val (.int (Int32.ofNat 0))] [(.long x), (.int (Int32.ofNat 0)), (.ref t)])) (fun zt zk => XS.lloadN X12.here hx rfl (hb hby d3_90) rfl zk) ?_
      obtain ⟨T13, h13, X13, e13, W13, st13⟩ := own_jst X12 hx hZ e12 V (j := 0) rfl (by omega) (by decide) (g := (mkF m 91 #[.val (.ref o), .val (.long x), .second, .val (.int (Int32.ofNat 0))] [(.long x), (.int (Int32.ofNat 0)), (.ref t)])) rfl rfl (hb hby d3_91)
      refine own_st (g1 := (mkF m 92 #[.val (.ref o), .val (.long x), .second, .val (.int (Int32.ofNat 0))] [])) (st13) ?_
      exact own_here X13 ⟨rfl, rfl, ⟨_, rfl⟩, Fr.snoc X13 N gt, by rw [e13, Wr.size W13]; exact hz, by rw [e13]; exact H.wr W13 hot, by rw [e13, (own_up_no (x := x) (f := f) (i := 0) (fun q => hp q.1))]; exact V.setJ W13⟩
def Q3 (Z : State) (o t : Nat) (f : Nat → Int64) (k : Nat) (x : Int64) (h0 : Heap) (n0 : Nat) (v : Option Value) (h : Heap) (L : List Loc) : Prop := v = none ∧ Fr n0 L ∧ n0 ≤ h.size ∧ Hp Z h o t (k + 1) ∧ VA Z h t .long 16 (fun j => .long (own_up x k k f j))
set_option maxRecDepth 65536 in
set_option maxHeartbeats 40000000 in
theorem rm3 (l : Launch) (Z : State) (a0 : Array Value) (hw : ∀ d ∈ tables_1, d.before a0 Z = true) (ws : List Jvm.Cond) (o t : Nat) (f : Nat → Int64) (k : Nat) (x : Int64) (h0 : Heap) (n0 : Nat) (hk : k < 16) (hot : o ≠ t) (go : n0 ≤ o) (gt : n0 ≤ t) (hz : n0 ≤ h0.size) (H : Hp Z h0 o t k) (V : VA Z h0 t .long 16 (fun j => .long (f j))) :
    Meets l Z (⟨"com/example/libperturb/libperturb/solver/MinHeap", "push", "(J)V"⟩ : MethodName) prog_48_method_3_code 4 none ws ({ frames := 0, cells := 0, slots := 0, locals := 0 } : Room) #[(.ref o), (.long x)] h0 0 0 (Q3 Z o t f k x h0 n0) := by
  refine own_meets (plainFor_of_name pn_3) ?_
  intro p e s m below meth c s₁ hx hZ hby hml hown hnm hret hlk X0 e0
  have hown : s.vm.findClass "com/example/libperturb/libperturb/solver/MinHeap" = some m.cls := hown
  have hnm : meth.name = "push" := hnm
  refine own_finV (l := l) (R := ({ frames := 0, cells := 0, slots := 0, locals := 0 } : Room)) (m := m) (args := #[(.ref o), (.long x)]) (c := c) hx hret hlk ?_
  refine own_cast (ef_3 m o x) ?_
  refine own_st (g1 := (mkF m 1 #[.val (.ref o), .val (.long x), .second, .unset] [(.ref o)])) (fun zt zk => XS.aloadN X0.here hx rfl (hb hby d3_0) rfl rfl zk) ?_
  obtain ⟨T14, X14, e14, st14⟩ := getF X0 hx hZ hown (host := "") (Or.inl (hw _ (List.mem_of_getElem? (i := 17) rfl))) Via.refl e0 H.2.2 (g := (mkF m 1 #[.val (.ref o), .val (.long x), .second, .unset] [(.ref o)])) rfl rfl (hb hby d3_1)
  refine own_st (g1 := (mkF m 4 #[.val (.ref o), .val (.long x), .second, .unset] [(.int (Int32.ofNat k))])) (st14) ?_
  refine own_st (g1 := (mkF m 5 #[.val (.ref o), .val (.long x), .second, .unset] [(.ref o), (.int (Int32.ofNat k))])) (fun zt zk => XS.aloadN X14.here hx rfl (hb hby d3_4) rfl rfl zk) ?_
  obtain ⟨T15, X15, e15, st15⟩ := getF X14 hx hZ hown (host := "") (Or.inl (hw _ (List.mem_of_getElem? (i := 10) rfl))) Via.refl e14 H.2.1 (g := (mkF m 5 #[.val (.ref o), .val (.long x), .second, .unset] [(.ref o), (.int (Int32.ofNat k))])) rfl rfl (hb hby d3_5)
  refine own_st (g1 := (mkF m 8 #[.val (.ref o), .val (.long x), .second, .unset] [(.ref t), (.int (Int32.ofNat k))])) (st15) ?_
  refine own_st (g1 := (mkF m 9 #[.val (.ref o), .val (.long x), .second, .unset] [(.int (16 : Int32)), (.int (Int32.ofNat k))])) (own_len X15 hx hZ e15 V (N := (16 : Int32)) rfl (g := (mkF m 8 #[.val (.ref o), .val (.long x), .second, .unset] [(.ref t), (.int (Int32.ofNat k))])) rfl rfl (hb hby d3_8)) ?_
  refine own_st (g1 := (mkF m 29 #[.val (.ref o), .val (.long x), .second, .unset] [])) (fun zt zk => XS.icmpYes X15.here hx rfl (pc0 := 9) (pc' := 29) rfl (hb hby d3_9) rfl (feq (fun u => by have := (own_eq (i := k) (j := 16) (by omega) (by omega)).mp u; omega)).2 (by decide) (by decide) zk) ?_
  refine own_st (g1 := (mkF m 30 #[.val (.ref o), .val (.long x), .second, .unset] [(.ref o)])) (fun zt zk => XS.aloadN X15.here hx rfl (hb hby d3_29) rfl rfl zk) ?_
  refine own_st (g1 := (mkF m 31 #[.val (.ref o), .val (.long x), .second, .unset] [(.ref o), (.ref o)])) (fun zt zk => XS.dup X15.here hx rfl (hb hby d3_30) rfl rfl zk) ?_
  obtain ⟨T16, X16, e16, st16⟩ := getF X15 hx hZ hown (host := "") (Or.inl (hw _ (List.mem_of_getElem? (i := 17) rfl))) Via.refl e15 H.2.2 (g := (mkF m 31 #[.val (.ref o), .val (.long x), .second, .unset] [(.ref o), (.ref o)])) rfl rfl (hb hby d3_31)
  refine own_st (g1 := (mkF m 34 #[.val (.ref o), .val (.long x), .second, .unset] [(.int (Int32.ofNat k)), (.ref o)])) (st16) ?_
  refine own_st (g1 := (mkF m 35 #[.val (.ref o), .val (.long x), .second, .unset] [(.int (Int32.ofNat k)), (.ref o), (.int (Int32.ofNat k))])) (fun zt zk => XS.dupX1 X16.here hx rfl (hb hby d3_34) rfl rfl rfl zk) ?_
  refine own_st (g1 := (mkF m 36 #[.val (.ref o), .val (.long x), .second, .unset] [(.int (1 : Int32)), (.int (Int32.ofNat k)), (.ref o), (.int (Int32.ofNat k))])) (fun zt zk => XS.iconst X16.here hx rfl (hb hby d3_35) zk) ?_
  refine own_st (g1 := (mkF m 37 #[.val (.ref o), .val (.long x), .second, .unset] [(.int ((Int32.ofNat k) + (1 : Int32))), (.ref o), (.int (Int32.ofNat k))])) (fun zt zk => XS.iadd X16.here hx rfl (hb hby d3_36) rfl zk) ?_
  rw [own_succ k]
  obtain ⟨T17, h17, X17, e17, W17, st17⟩ := putF X16 hx hZ hown (host := "") (Or.inl (hw _ (List.mem_of_getElem? (i := 17) rfl))) Via.refl e16 H.2.2 H.1 (Or.inl (hw _ (List.mem_of_getElem? (i := 18) rfl))) (hw _ (List.mem_of_getElem? (i := 1) rfl)) (ty := .int) (by decide) rfl rfl (g := (mkF m 37 #[.val (.ref o), .val (.long x), .second, .unset] [(.int (Int32.ofNat (k + 1))), (.ref o), (.int (Int32.ofNat k))])) rfl rfl (hb hby d3_37)
  refine own_st (g1 := (mkF m 40 #[.val (.ref o), .val (.long x), .second, .unset] [(.int (Int32.ofNat k))])) (st17) ?_
  have H1 : Hp Z h17 o t (k + 1) := ⟨H.1.wr W17, H.2.1.other W17 (Or.inr (slot_ne (Or.inl (hw _ (List.mem_of_getElem? (i := 11) rfl))) (Or.inl (hw _ (List.mem_of_getElem? (i := 18) rfl))) (by decide) (t := (.array .long)) (t' := .int) (by decide) (by decide))), H.2.2.same W17⟩
  refine own_st (g1 := (mkF m 41 #[.val (.ref o), .val (.long x), .second, .val (.int (Int32.ofNat k))] [])) (fun zt zk => XS.istoreN X17.here hx rfl (hb hby d3_40) rfl (l' := #[.val (.ref o), .val (.long x), .second, .val (.int (Int32.ofNat k))]) rfl zk) ?_
  refine own_bind (loop3 hx hZ hw hby hml hown hnm o t x n0 (k + 1) hot gt k k f T17 _ h17 (Nat.le_refl k) hk X17 e17 (by rw [Wr.size W17]; exact hz) (Fr.snoc X17 (Fr.nil n0) go) H1 (V.other W17 (Ne.symm hot))) ?_
  rintro T' L' k' n' g' X' ⟨rfl, rfl, ⟨i', rfl⟩, r4, r5, r6, r7⟩
  exact own_here X' ⟨92, _, rfl, (hb hby d3_92), (by decide), (by decide), ⟨rfl, r4, r5, r6, r7⟩⟩
theorem d4_0 : decode prog_48_method_4_code 0 = .ok (.aload_n 0, 1) := by decide +kernel
theorem d4_1 : decode prog_48_method_4_code 1 = .ok (.getfield 7, 3) := by decide +kernel
theorem d4_4 : decode prog_48_method_4_code 4 = .ok (.iconst 0, 1) := by decide +kernel
theorem d4_5 : decode prog_48_method_4_code 5 = .ok (.laload, 1) := by decide +kernel
theorem d4_6 : decode prog_48_method_4_code 6 = .ok (.lstore_n 1, 1) := by decide +kernel
theorem d4_7 : decode prog_48_method_4_code 7 = .ok (.aload_n 0, 1) := by decide +kernel
theorem d4_8 : decode prog_48_method_4_code 8 = .ok (.getfield 7, 3) := by decide +kernel
theorem d4_11 : decode prog_48_method_4_code 11 = .ok (.aload_n 0, 1) := by decide +kernel
theorem d4_12 : decode prog_48_method_4_code 12 = .ok (.dup, 1) := by decide +kernel
theorem d4_13 : decode prog_48_method_4_code 13 = .ok (.getfield 13, 3) := by decide +kernel
theorem d4_16 : decode prog_48_method_4_code 16 = .ok (.iconst 1, 1) := by decide +kernel
theorem d4_17 : decode prog_48_method_4_code 17 = .ok (.isub, 1) := by decide +kernel
theorem d4_18 : decode prog_48_method_4_code 18 = .ok (.dup_x1, 1) := by decide +kernel
theorem d4_19 : decode prog_48_method_4_code 19 = .ok (.putfield 13, 3) := by decide +kernel
theorem d4_22 : decode prog_48_method_4_code 22 = .ok (.laload, 1) := by decide +kernel
theorem d4_23 : decode prog_48_method_4_code 23 = .ok (.lstore_n 3, 1) := by decide +kernel
theorem d4_24 : decode prog_48_method_4_code 24 = .ok (.iconst 0, 1) := by decide +kernel
theorem d4_25 : decode prog_48_method_4_code 25 = .ok (.istore 5, 2) := by decide +kernel
theorem d4_27 : decode prog_48_method_4_code 27 = .ok (.iconst 1, 1) := by decide +kernel
theorem d4_28 : decode prog_48_method_4_code 28 = .ok (.istore 6, 2) := by decide +kernel
theorem d4_30 : decode prog_48_method_4_code 30 = .ok (.iload 6, 2) := by decide +kernel
theorem d4_32 : decode prog_48_method_4_code 32 = .ok (.aload_n 0, 1) := by decide +kernel
theorem d4_33 : decode prog_48_method_4_code 33 = .ok (.getfield 13, 3) := by decide +kernel
theorem d4_36 : decode prog_48_method_4_code 36 = .ok (.if_icmp .ge 81, 3) := by decide +kernel
theorem d4_39 : decode prog_48_method_4_code 39 = .ok (.iload 6, 2) := by decide +kernel
theorem d4_41 : decode prog_48_method_4_code 41 = .ok (.iconst 1, 1) := by decide +kernel
theorem d4_42 : decode prog_48_method_4_code 42 = .ok (.iadd, 1) := by decide +kernel
theorem d4_43 : decode prog_48_method_4_code 43 = .ok (.aload_n 0, 1) := by decide +kernel
theorem d4_44 : decode prog_48_method_4_code 44 = .ok (.getfield 13, 3) := by decide +kernel
theorem d4_47 : decode prog_48_method_4_code 47 = .ok (.if_icmp .ge 26, 3) := by decide +kernel
theorem d4_50 : decode prog_48_method_4_code 50 = .ok (.aload_n 0, 1) := by decide +kernel
theorem d4_51 : decode prog_48_method_4_code 51 = .ok (.getfield 7, 3) := by decide +kernel
theorem d4_54 : decode prog_48_method_4_code 54 = .ok (.iload 6, 2) := by decide +kernel
theorem d4_56 : decode prog_48_method_4_code 56 = .ok (.iconst 1, 1) := by decide +kernel
theorem d4_57 : decode prog_48_method_4_code 57 = .ok (.iadd, 1) := by decide +kernel
theorem d4_58 : decode prog_48_method_4_code 58 = .ok (.laload, 1) := by decide +kernel
theorem d4_59 : decode prog_48_method_4_code 59 = .ok (.aload_n 0, 1) := by decide +kernel
theorem d4_60 : decode prog_48_method_4_code 60 = .ok (.getfield 7, 3) := by decide +kernel
theorem d4_63 : decode prog_48_method_4_code 63 = .ok (.iload 6, 2) := by decide +kernel
theorem d4_65 : decode prog_48_method_4_code 65 = .ok (.laload, 1) := by decide +kernel
theorem d4_66 : decode prog_48_method_4_code 66 = .ok (.lcmp, 1) := by decide +kernel
theorem d4_67 : decode prog_48_method_4_code 67 = .ok (.ifCond .ge 6, 3) := by decide +kernel
theorem d4_70 : decode prog_48_method_4_code 70 = .ok (.iinc 6 1, 3) := by decide +kernel
theorem d4_73 : decode prog_48_method_4_code 73 = .ok (.aload_n 0, 1) := by decide +kernel
theorem d4_74 : decode prog_48_method_4_code 74 = .ok (.getfield 7, 3) := by decide +kernel
theorem d4_77 : decode prog_48_method_4_code 77 = .ok (.iload 6, 2) := by decide +kernel
theorem d4_79 : decode prog_48_method_4_code 79 = .ok (.laload, 1) := by decide +kernel
theorem d4_80 : decode prog_48_method_4_code 80 = .ok (.lload_n 3, 1) := by decide +kernel
theorem d4_81 : decode prog_48_method_4_code 81 = .ok (.lcmp, 1) := by decide +kernel
theorem d4_82 : decode prog_48_method_4_code 82 = .ok (.ifCond .lt 6, 3) := by decide +kernel
theorem d4_85 : decode prog_48_method_4_code 85 = .ok (.goto 32, 3) := by decide +kernel
theorem d4_88 : decode prog_48_method_4_code 88 = .ok (.aload_n 0, 1) := by decide +kernel
theorem d4_89 : decode prog_48_method_4_code 89 = .ok (.getfield 7, 3) := by decide +kernel
theorem d4_92 : decode prog_48_method_4_code 92 = .ok (.iload 5, 2) := by decide +kernel
theorem d4_94 : decode prog_48_method_4_code 94 = .ok (.aload_n 0, 1) := by decide +kernel
theorem d4_95 : decode prog_48_method_4_code 95 = .ok (.getfield 7, 3) := by decide +kernel
theorem d4_98 : decode prog_48_method_4_code 98 = .ok (.iload 6, 2) := by decide +kernel
theorem d4_100 : decode prog_48_method_4_code 100 = .ok (.laload, 1) := by decide +kernel
theorem d4_101 : decode prog_48_method_4_code 101 = .ok (.lastore, 1) := by decide +kernel
theorem d4_102 : decode prog_48_method_4_code 102 = .ok (.iload 6, 2) := by decide +kernel
theorem d4_104 : decode prog_48_method_4_code 104 = .ok (.istore 5, 2) := by decide +kernel
theorem d4_106 : decode prog_48_method_4_code 106 = .ok (.iconst 2, 1) := by decide +kernel
theorem d4_107 : decode prog_48_method_4_code 107 = .ok (.iload 5, 2) := by decide +kernel
theorem d4_109 : decode prog_48_method_4_code 109 = .ok (.imul, 1) := by decide +kernel
theorem d4_110 : decode prog_48_method_4_code 110 = .ok (.iconst 1, 1) := by decide +kernel
theorem d4_111 : decode prog_48_method_4_code 111 = .ok (.iadd, 1) := by decide +kernel
theorem d4_112 : decode prog_48_method_4_code 112 = .ok (.istore 6, 2) := by decide +kernel
theorem d4_114 : decode prog_48_method_4_code 114 = .ok (.goto (-84), 3) := by decide +kernel
theorem d4_117 : decode prog_48_method_4_code 117 = .ok (.aload_n 0, 1) := by decide +kernel
theorem d4_118 : decode prog_48_method_4_code 118 = .ok (.getfield 7, 3) := by decide +kernel
theorem d4_121 : decode prog_48_method_4_code 121 = .ok (.iload 5, 2) := by decide +kernel
theorem d4_123 : decode prog_48_method_4_code 123 = .ok (.lload_n 3, 1) := by decide +kernel
theorem d4_124 : decode prog_48_method_4_code 124 = .ok (.lastore, 1) := by decide +kernel
theorem d4_125 : decode prog_48_method_4_code 125 = .ok (.lload_n 1, 1) := by decide +kernel
theorem d4_126 : decode prog_48_method_4_code 126 = .ok (.lreturn, 1) := by decide +kernel
theorem pn_4 : plainName "com/example/libperturb/libperturb/solver/MinHeap" = true := by first | (simp [plainName, overriddenIn]; done) | decide +kernel
theorem ef_4 (m : MethodId) (x0 : Nat) : entryFrame m #[(.ref x0)] 7 = mkF m 0 #[.val (.ref x0), .unset, .unset, .unset, .unset, .unset, .unset] [] := by first | (simp [entryFrame, mkF, argsToLocals, Value.category]; done) | rfl
set_option maxRecDepth 65536 in
set_option maxHeartbeats 40000000 in
theorem loop4 {p : Program} {l : Launch} {e : Env} {R : Room} {s : State} {m : MethodId} {args : Array Value} {below : List Frame} {meth : Method} {c : Code} {Z : State} {a0 : Array Value} (hx : p.tables.exec = Jvm.exec) (hZ : Z.Warmed39 s.vm) (hw : ∀ d ∈ tables_1, d.before a0 Z = true) (hby : c.code = prog_48_method_4_code) (hml : c.maxLocals = 7) (hown : s.vm.findClass "com/example/libperturb/libperturb/solver/MinHeap" = some m.cls) (hnm : meth.name = "pop") (o t : Nat) (tp la : Int64) (n0 sz : Nat) (hsz : sz < 16) (hot : o ≠ t) (gt : n0 ≤ t) {cells slots : Nat} :
    ∀ (k i ch : Nat) (f : Nat → Int64) (T0 : State) (L0 : List Loc) (h : Heap), sz ≤ ch + k → i < 16 → ch < 100 → Stand p l e R s m args below meth c T0 L0 cells slots → T0.heap = h → n0 ≤ h.size → Fr n0 L0 → Hp Z h o t sz → VA Z h t .long 16 (fun j => .long (f j)) →
      Goes p l e R s m args below meth c T0 (mkF m 30 #[.val (.ref o), .val (.long tp), .second, .val (.long la), .second, .val (.int (Int32.ofNat i)), .val (.int (Int32.ofNat ch))] []) (fun T' L' k' n' g' => k' = cells ∧ n' = slots ∧ (∃ i' c' : Int32, g' = (mkF m 125 #[.val (.ref o), .val (.long tp), .second, .val (.long la), .second, .val (.int i'), .val (.int c')] [])) ∧ Fr n0 L' ∧ n0 ≤ T'.heap.size ∧ Hp Z T'.heap o t sz ∧ VA Z T'.heap t .long 16 (fun j => .long (own_down la sz k i ch f j))) := by
  intro k
  induction k with
  | zero =>
    intro i ch f T0 L0 h hfu hi hch X e0 hz N H V
    refine own_st (g1 := (mkF m 32 #[.val (.ref o), .val (.long tp), .second, .val (.long la), .second, .val (.int (Int32.ofNat i)), .val (.int (Int32.ofNat ch))] [(.int (Int32.ofNat ch))])) (fun zt zk => XS.iload X.here hx rfl (hb hby d4_30) rfl zk) ?_
    refine own_st (g1 := (mkF m 33 #[.val (.ref o), .val (.long tp), .second, .val (.long la), .second, .val (.int (Int32.ofNat i)), .val (.int (Int32.ofNat ch))] [(.ref o), (.int (Int32.ofNat ch))])) (fun zt zk => XS.aloadN X.here hx rfl (hb hby d4_32) rfl rfl zk) ?_
    obtain ⟨T18, X18, e18, st18⟩ := getF X hx hZ hown (host := "") (Or.inl (hw _ (List.mem_of_getElem? (i := 17) rfl))) Via.refl e0 H.2.2 (g := (mkF m 33 #[.val (.ref o), .val (.long tp), .second, .val (.long la), .second, .val (.int (Int32.ofNat i)), .val (.int (Int32.ofNat ch))] [(.ref o), (.int (Int32.ofNat ch))])) rfl rfl (hb hby d4_33)
    refine own_st (g1 := (mkF m 36 #[.val (.ref o), .val (.long tp), .second, .val (.long la), .second, .val (.int (Int32.ofNat i)), .val (.int (Int32.ofNat ch))] [(.int (Int32.ofNat sz)), (.int (Int32.ofNat ch))])) (st18) ?_
    refine own_st (g1 := (mkF m 117 #[.val (.ref o), .val (.long tp), .second, .val (.long la), .second, .val (.int (Int32.ofNat i)), .val (.int (Int32.ofNat ch))] [])) (fun zt zk => XS.icmpYes X18.here hx rfl (pc0 := 36) (pc' := 117) rfl (hb hby d4_36) rfl (flt (fun u => by have := (own_lt (i := ch) (j := sz) (by omega) (by omega)).mp u; omega)).2.1 (by decide) (by decide) zk) ?_
    refine own_st (g1 := (mkF m 118 #[.val (.ref o), .val (.long tp), .second, .val (.long la), .second, .val (.int (Int32.ofNat i)), .val (.int (Int32.ofNat ch))] [(.ref o)])) (fun zt zk => XS.aloadN X18.here hx rfl (hb hby d4_117) rfl rfl zk) ?_
    obtain ⟨T19, X19, e19, st19⟩ := getF X18 hx hZ hown (host := "") (Or.inl (hw _ (List.mem_of_getElem? (i := 10) rfl))) Via.refl e18 H.2.1 (g := (mkF m 118 #[.val (.ref o), .val (.long tp), .second, .val (.long la), .second, .val (.int (Int32.ofNat i)), .val (.int (Int32.ofNat ch))] [(.ref o)])) rfl rfl (hb hby d4_118)
    refine own_st (g1 := (mkF m 121 #[.val (.ref o), .val (.long tp), .second, .val (.long la), .second, .val (.int (Int32.ofNat i)), .val (.int (Int32.ofNat ch))] [(.ref t)])) (st19) ?_
    refine own_st (g1 := (mkF m 123 #[.val (.ref o), .val (.long tp), .second, .val (.long la), .second, .val (.int (Int32.ofNat i)), .val (.int (Int32.ofNat ch))] [(.int (Int32.ofNat i)), (.ref t)])) (fun zt zk => XS.iload X19.here hx rfl (hb hby d4_121) rfl zk) ?_
    refine own_st (g1 := (mkF m 124 #[.val (.ref o), .val (.long tp), .second, .val (.long la), .second, .val (.int (Int32.ofNat i)), .val (.int (Int32.ofNat ch))] [(.long la), (.int (Int32.ofNat i)), (.ref t)])) (fun zt zk => XS.lloadN X19.here hx rfl (hb hby d4_123) rfl zk) ?_
    obtain ⟨T20, h20, X20, e20, W20, st20⟩ := own_jst X19 hx hZ e19 V (j := i) rfl (by omega) (by decide) (g := (mkF m 124 #[.val (.ref o), .val (.long tp), .second, .val (.long la), .second, .val (.int (Int32.ofNat i)), .val (.int (Int32.ofNat ch))] [(.long la), (.int (Int32.ofNat i)), (.ref t)])) rfl rfl (hb hby d4_124)
    refine own_st (g1 := (mkF m 125 #[.val (.ref o), .val (.long tp), .second, .val (.long la), .second, .val (.int (Int32.ofNat i)), .val (.int (Int32.ofNat ch))] [])) (st20) ?_
    exact own_here X20 ⟨rfl, rfl, ⟨_, _, rfl⟩, Fr.snoc X20 N gt, by rw [e20, Wr.size W20]; exact hz, by rw [e20]; exact H.wr W20 hot, by rw [e20, own_down_zero]; exact V.setJ W20⟩
  | succ k ih =>
    intro i ch f T0 L0 h hfu hi hch X e0 hz N H V
    refine own_st (g1 := (mkF m 32 #[.val (.ref o), .val (.long tp), .second, .val (.long la), .second, .val (.int (Int32.ofNat i)), .val (.int (Int32.ofNat ch))] [(.int (Int32.ofNat ch))])) (fun zt zk => XS.iload X.here hx rfl (hb hby d4_30) rfl zk) ?_
    refine own_st (g1 := (mkF m 33 #[.val (.ref o), .val (.long tp), .second, .val (.long la), .second, .val (.int (Int32.ofNat i)), .val (.int (Int32.ofNat ch))] [(.ref o), (.int (Int32.ofNat ch))])) (fun zt zk => XS.aloadN X.here hx rfl (hb hby d4_32) rfl rfl zk) ?_
    obtain ⟨T21, X21, e21, st21⟩ := getF X hx hZ hown (host := "") (Or.inl (hw _ (List.mem_of_getElem? (i := 17) rfl))) Via.refl e0 H.2.2 (g := (mkF m 33 #[.val (.ref o), .val (.long tp), .second, .val (.long la), .second, .val (.int (Int32.ofNat i)), .val (.int (Int32.ofNat ch))] [(.ref o), (.int (Int32.ofNat ch))])) rfl rfl (hb hby d4_33)
    refine own_st (g1 := (mkF m 36 #[.val (.ref o), .val (.long tp), .second, .val (.long la), .second, .val (.int (Int32.ofNat i)), .val (.int (Int32.ofNat ch))] [(.int (Int32.ofNat sz)), (.int (Int32.ofNat ch))])) (st21) ?_
    by_cases hcs : ch < sz
    · refine own_st (g1 := (mkF m 39 #[.val (.ref o), .val (.long tp), .second, .val (.long la), .second, .val (.int (Int32.ofNat i)), .val (.int (Int32.ofNat ch))] [])) (fun zt zk => XS.icmpNo X21.here hx rfl (hb hby d4_36) rfl (tlt ((own_lt (i := ch) (j := sz) (by omega) (by omega)).mpr hcs)).2.1 zk) ?_
      have hA : Goes p l e R s m args below meth c T21 (mkF m 39 #[.val (.ref o), .val (.long tp), .second, .val (.long la), .second, .val (.int (Int32.ofNat i)), .val (.int (Int32.ofNat ch))] []) (fun T' L' k' n' g' => T'.heap = h ∧ L' = L0 ∧ k' = cells ∧ n' = slots ∧ g' = (mkF m 73 #[.val (.ref o), .val (.long tp), .second, .val (.long la), .second, .val (.int (Int32.ofNat i)), .val (.int (Int32.ofNat (own_kid f ch sz)))] [])) := by
        refine own_st (g1 := (mkF m 41 #[.val (.ref o), .val (.long tp), .second, .val (.long la), .second, .val (.int (Int32.ofNat i)), .val (.int (Int32.ofNat ch))] [(.int (Int32.ofNat ch))])) (fun zt zk => XS.iload X21.here hx rfl (hb hby d4_39) rfl zk) ?_
        refine own_st (g1 := (mkF m 42 #[.val (.ref o), .val (.long tp), .second, .val (.long la), .second, .val (.int (Int32.ofNat i)), .val (.int (Int32.ofNat ch))] [(.int (1 : Int32)), (.int (Int32.ofNat ch))])) (fun zt zk => XS.iconst X21.here hx rfl (hb hby d4_41) zk) ?_
        refine own_st (g1 := (mkF m 43 #[.val (.ref o), .val (.long tp), .second, .val (.long la), .second, .val (.int (Int32.ofNat i)), .val (.int (Int32.ofNat ch))] [(.int ((Int32.ofNat ch) + (1 : Int32)))])) (fun zt zk => XS.iadd X21.here hx rfl (hb hby d4_42) rfl zk) ?_
        refine own_st (g1 := (mkF m 44 #[.val (.ref o), .val (.long tp), .second, .val (.long la), .second, .val (.int (Int32.ofNat i)), .val (.int (Int32.ofNat ch))] [(.ref o), (.int ((Int32.ofNat ch) + (1 : Int32)))])) (fun zt zk => XS.aloadN X21.here hx rfl (hb hby d4_43) rfl rfl zk) ?_
        obtain ⟨T24, X24, e24, st24⟩ := getF X21 hx hZ hown (host := "") (Or.inl (hw _ (List.mem_of_getElem? (i := 17) rfl))) Via.refl e21 H.2.2 (g := (mkF m 44 #[.val (.ref o), .val (.long tp), .second, .val (.long la), .second, .val (.int (Int32.ofNat i)), .val (.int (Int32.ofNat ch))] [(.ref o), (.int ((Int32.ofNat ch) + (1 : Int32)))])) rfl rfl (hb hby d4_44)
        refine own_st (g1 := (mkF m 47 #[.val (.ref o), .val (.long tp), .second, .val (.long la), .second, .val (.int (Int32.ofNat i)), .val (.int (Int32.ofNat ch))] [(.int (Int32.ofNat sz)), (.int ((Int32.ofNat ch) + (1 : Int32)))])) (st24) ?_
        rw [own_succ ch]
        by_cases h1 : ch + 1 < sz
        · refine own_st (g1 := (mkF m 50 #[.val (.ref o), .val (.long tp), .second, .val (.long la), .second, .val (.int (Int32.ofNat i)), .val (.int (Int32.ofNat ch))] [])) (fun zt zk => XS.icmpNo X24.here hx rfl (hb hby d4_47) rfl (tlt ((own_lt (i := ch + 1) (j := sz) (by omega) (by omega)).mpr h1)).2.1 zk) ?_
          refine own_st (g1 := (mkF m 51 #[.val (.ref o), .val (.long tp), .second, .val (.long la), .second, .val (.int (Int32.ofNat i)), .val (.int (Int32.ofNat ch))] [(.ref o)])) (fun zt zk => XS.aloadN X24.here hx rfl (hb hby d4_50) rfl rfl zk) ?_
          obtain ⟨T25, X25, e25, st25⟩ := getF X24 hx hZ hown (host := "") (Or.inl (hw _ (List.mem_of_getElem? (i := 10) rfl))) Via.refl e24 H.2.1 (g := (mkF m 51 #[.val (.ref o), .val (.long tp), .second, .val (.long la), .second, .val (.int (Int32.ofNat i)), .val (.int (Int32.ofNat ch))] [(.ref o)])) rfl rfl (hb hby d4_51)
          refine own_st (g1 := (mkF m 54 #[.val (.ref o), .val (.long tp), .second, .val (.long la), .second, .val (.int (Int32.ofNat i)), .val (.int (Int32.ofNat ch))] [(.ref t)])) (st25) ?_
          refine own_st (g1 := (mkF m 56 #[.val (.ref o), .val (.long tp), .second, .val (.long la), .second, .val (.int (Int32.ofNat i)), .val (.int (Int32.ofNat ch))] [(.int (Int32.ofNat ch)), (.ref t)])) (fun zt zk => XS.iload X25.here hx rfl (hb hby d4_54) rfl zk) ?_
          refine own_st (g1 := (mkF m 57 #[.val (.ref o), .val (.long tp), .second, .val (.long la), .second, .val (.int (Int32.ofNat i)), .val (.int (Int32.ofNat ch))] [(.int (1 : Int32)), (.int (Int32.ofNat ch)), (.ref t)])) (fun zt zk => XS.iconst X25.here hx rfl (hb hby d4_56) zk) ?_
          refine own_st (g1 := (mkF m 58 #[.val (.ref o), .val (.long tp), .second, .val (.long la), .second, .val (.int (Int32.ofNat i)), .val (.int (Int32.ofNat ch))] [(.int ((Int32.ofNat ch) + (1 : Int32))), (.ref t)])) (fun zt zk => XS.iadd X25.here hx rfl (hb hby d4_57) rfl zk) ?_
          refine own_st (g1 := (mkF m 59 #[.val (.ref o), .val (.long tp), .second, .val (.long la), .second, .val (.int (Int32.ofNat i)), .val (.int (Int32.ofNat ch))] [(.long (f (ch + 1)))])) (own_jld X25 hx hZ e25 V (j := (ch + 1)) (v := (.long (f (ch + 1)))) (own_succ ch) (by omega) (by decide) rfl (g := (mkF m 58 #[.val (.ref o), .val (.long tp), .second, .val (.long la), .second, .val (.int (Int32.ofNat i)), .val (.int (Int32.ofNat ch))] [(.int ((Int32.ofNat ch) + (1 : Int32))), (.ref t)])) rfl rfl (hb hby d4_58)) ?_
          refine own_st (g1 := (mkF m 60 #[.val (.ref o), .val (.long tp), .second, .val (.long la), .second, .val (.int (Int32.ofNat i)), .val (.int (Int32.ofNat ch))] [(.ref o), (.long (f (ch + 1)))])) (fun zt zk => XS.aloadN X25.here hx rfl (hb hby d4_59) rfl rfl zk) ?_
          obtain ⟨T26, X26, e26, st26⟩ := getF X25 hx hZ hown (host := "") (Or.inl (hw _ (List.mem_of_getElem? (i := 10) rfl))) Via.refl e25 H.2.1 (g := (mkF m 60 #[.val (.ref o), .val (.long tp), .second, .val (.long la), .second, .val (.int (Int32.ofNat i)), .val (.int (Int32.ofNat ch))] [(.ref o), (.long (f (ch + 1)))])) rfl rfl (hb hby d4_60)
          refine own_st (g1 := (mkF m 63 #[.val (.ref o), .val (.long tp), .second, .val (.long la), .second, .val (.int (Int32.ofNat i)), .val (.int (Int32.ofNat ch))] [(.ref t), (.long (f (ch + 1)))])) (st26) ?_
          refine own_st (g1 := (mkF m 65 #[.val (.ref o), .val (.long tp), .second, .val (.long la), .second, .val (.int (Int32.ofNat i)), .val (.int (Int32.ofNat ch))] [(.int (Int32.ofNat ch)), (.ref t), (.long (f (ch + 1)))])) (fun zt zk => XS.iload X26.here hx rfl (hb hby d4_63) rfl zk) ?_
          refine own_st (g1 := (mkF m 66 #[.val (.ref o), .val (.long tp), .second, .val (.long la), .second, .val (.int (Int32.ofNat i)), .val (.int (Int32.ofNat ch))] [(.long (f ch)), (.long (f (ch + 1)))])) (own_jld X26 hx hZ e26 V (j := ch) (v := (.long (f ch))) rfl (by omega) (by decide) rfl (g := (mkF m 65 #[.val (.ref o), .val (.long tp), .second, .val (.long la), .second, .val (.int (Int32.ofNat i)), .val (.int (Int32.ofNat ch))] [(.int (Int32.ofNat ch)), (.ref t), (.long (f (ch + 1)))])) rfl rfl (hb hby d4_65)) ?_
          refine own_st (g1 := (mkF m 67 #[.val (.ref o), .val (.long tp), .second, .val (.long la), .second, .val (.int (Int32.ofNat i)), .val (.int (Int32.ofNat ch))] [(.int (lcmpW (f (ch + 1)) (f ch)))])) (fun zt zk => XS.lcmp X26.here hx rfl (hb hby d4_66) rfl zk) ?_
          by_cases h2 : (f (ch + 1)) < (f ch)
          · refine own_st (g1 := (mkF m 70 #[.val (.ref o), .val (.long tp), .second, .val (.long la), .second, .val (.int (Int32.ofNat i)), .val (.int (Int32.ofNat ch))] [])) (fun zt zk => XS.ifNo X26.here hx rfl (hb hby d4_67) rfl ((if0 _ _).trans (tlt ((lw_lt _ _).mpr h2)).2.1) zk) ?_
            refine own_st (g1 := (mkF m 73 #[.val (.ref o), .val (.long tp), .second, .val (.long la), .second, .val (.int (Int32.ofNat i)), .val (.int ((Int32.ofNat ch) + (1 : Int32)))] [])) (fun zt zk => XS.iinc X26.here hx rfl (hb hby d4_70) rfl (l' := #[.val (.ref o), .val (.long tp), .second, .val (.long la), .second, .val (.int (Int32.ofNat i)), .val (.int ((Int32.ofNat ch) + (1 : Int32)))]) rfl zk) ?_
            have hk := own_kid_c (f := f) h1 h2
            exact own_here X26 ⟨e26, rfl, rfl, rfl, by rw [hk, ← own_succ ch]⟩
          · refine own_st (g1 := (mkF m 73 #[.val (.ref o), .val (.long tp), .second, .val (.long la), .second, .val (.int (Int32.ofNat i)), .val (.int (Int32.ofNat ch))] [])) (fun zt zk => XS.ifYes X26.here hx rfl (pc0 := 67) (pc' := 73) rfl (hb hby d4_67) rfl ((if0 _ _).trans (flt (fun q => h2 ((lw_lt _ _).mp q))).2.1) (by decide) (by decide) zk) ?_
            have hk := own_kid_b (f := f) h1 h2
            exact own_here X26 ⟨e26, rfl, rfl, rfl, by rw [hk]⟩
        · refine own_st (g1 := (mkF m 73 #[.val (.ref o), .val (.long tp), .second, .val (.long la), .second, .val (.int (Int32.ofNat i)), .val (.int (Int32.ofNat ch))] [])) (fun zt zk => XS.icmpYes X24.here hx rfl (pc0 := 47) (pc' := 73) rfl (hb hby d4_47) rfl (flt (fun u => h1 ((own_lt (i := ch + 1) (j := sz) (by omega) (by omega)).mp u))).2.1 (by decide) (by decide) zk) ?_
          have hk := own_kid_a (f := f) h1
          exact own_here X24 ⟨e24, rfl, rfl, rfl, by rw [hk]⟩
      refine own_bind hA ?_
      rintro T5 L5 _ _ _ X5 ⟨e5, rfl, rfl, rfl, rfl⟩
      have hkl : own_kid f ch sz < sz := own_kid_lt hcs
      have hkg : ch ≤ own_kid f ch sz := own_kid_ge
      generalize hke : own_kid f ch sz = d at hkl hkg ⊢
      refine own_st (g1 := (mkF m 74 #[.val (.ref o), .val (.long tp), .second, .val (.long la), .second, .val (.int (Int32.ofNat i)), .val (.int (Int32.ofNat d))] [(.ref o)])) (fun zt zk => XS.aloadN X5.here hx rfl (hb hby d4_73) rfl rfl zk) ?_
      obtain ⟨T27, X27, e27, st27⟩ := getF X5 hx hZ hown (host := "") (Or.inl (hw _ (List.mem_of_getElem? (i := 10) rfl))) Via.refl e5 H.2.1 (g := (mkF m 74 #[.val (.ref o), .val (.long tp), .second, .val (.long la), .second, .val (.int (Int32.ofNat i)), .val (.int (Int32.ofNat d))] [(.ref o)])) rfl rfl (hb hby d4_74)
      refine own_st (g1 := (mkF m 77 #[.val (.ref o), .val (.long tp), .second, .val (.long la), .second, .val (.int (Int32.ofNat i)), .val (.int (Int32.ofNat d))] [(.ref t)])) (st27) ?_
      refine own_st (g1 := (mkF m 79 #[.val (.ref o), .val (.long tp), .second, .val (.long la), .second, .val (.int (Int32.ofNat i)), .val (.int (Int32.ofNat d))] [(.int (Int32.ofNat d)), (.ref t)])) (fun zt zk => XS.iload X27.here hx rfl (hb hby d4_77) rfl zk) ?_
      refine own_st (g1 := (mkF m 80 #[.val (.ref o), .val (.long tp), .second, .val (.long la), .second, .val (.int (Int32.ofNat i)), .val (.int (Int32.ofNat d))] [(.long (f d))])) (own_jld X27 hx hZ e27 V (j := d) (v := (.long (f d))) rfl (by omega) (by decide) rfl (g := (mkF m 79 #[.val (.ref o), .val (.long tp), .second, .val (.long la), .second, .val (.int (Int32.ofNat i)), .val (.int (Int32.ofNat d))] [(.int (Int32.ofNat d)), (.ref t)])) rfl rfl (hb hby d4_79)) ?_
      refine own_st (g1 := (mkF m 81 #[.val (.ref o), .val (.long tp), .second, .val (.long la), .second, .val (.int (Int32.ofNat i)), .val (.int (Int32.ofNat d))] [(.long la), (.long (f d))])) (fun zt zk => XS.lloadN X27.here hx rfl (hb hby d4_80) rfl zk) ?_
      refine own_st (g1 := (mkF m 82 #[.val (.ref o), .val (.long tp), .second, .val (.long la), .second, .val (.int (Int32.ofNat i)), .val (.int (Int32.ofNat d))] [(.int (lcmpW (f d) la))])) (fun zt zk => XS.lcmp X27.here hx rfl (hb hby d4_81) rfl zk) ?_
      by_cases hl : (f d) < la
      · refine own_st (g1 := (mkF m 88 #[.val (.ref o), .val (.long tp), .second, .val (.long la), .second, .val (.int (Int32.ofNat i)), .val (.int (Int32.ofNat d))] [])) (fun zt zk => XS.ifYes X27.here hx rfl (pc0 := 82) (pc' := 88) rfl (hb hby d4_82) rfl ((if0 _ _).trans (tlt ((lw_lt _ _).mpr hl)).1) (by decide) (by decide) zk) ?_
        refine own_st (g1 := (mkF m 89 #[.val (.ref o), .val (.long tp), .second, .val (.long la), .second, .val (.int (Int32.ofNat i)), .val (.int (Int32.ofNat d))] [(.ref o)])) (fun zt zk => XS.aloadN X27.here hx rfl (hb hby d4_88) rfl rfl zk) ?_
        obtain ⟨T30, X30, e30, st30⟩ := getF X27 hx hZ hown (host := "") (Or.inl (hw _ (List.mem_of_getElem? (i := 10) rfl))) Via.refl e27 H.2.1 (g := (mkF m 89 #[.val (.ref o), .val (.long tp), .second, .val (.long la), .second, .val (.int (Int32.ofNat i)), .val (.int (Int32.ofNat d))] [(.ref o)])) rfl rfl (hb hby d4_89)
        refine own_st (g1 := (mkF m 92 #[.val (.ref o), .val (.long tp), .second, .val (.long la), .second, .val (.int (Int32.ofNat i)), .val (.int (Int32.ofNat d))] [(.ref t)])) (st30) ?_
        refine own_st (g1 := (mkF m 94 #[.val (.ref o), .val (.long tp), .second, .val (.long la), .second, .val (.int (Int32.ofNat i)), .val (.int (Int32.ofNat d))] [(.int (Int32.ofNat i)), (.ref t)])) (fun zt zk => XS.iload X30.here hx rfl (hb hby d4_92) rfl zk) ?_
        refine own_st (g1 := (mkF m 95 #[.val (.ref o), .val (.long tp), .second, .val (.long la), .second, .val (.int (Int32.ofNat i)), .val (.int (Int32.ofNat d))] [(.ref o), (.int (Int32.ofNat i)), (.ref t)])) (fun zt zk => XS.aloadN X30.here hx rfl (hb hby d4_94) rfl rfl zk) ?_
        obtain ⟨T31, X31, e31, st31⟩ := getF X30 hx hZ hown (host := "") (Or.inl (hw _ (List.mem_of_getElem? (i := 10) rfl))) Via.refl e30 H.2.1 (g := (mkF m 95 #[.val (.ref o), .val (.long tp), .second, .val (.long la), .second, .val (.int (Int32.ofNat i)), .val (.int (Int32.ofNat d))] [(.ref o), (.int (Int32.ofNat i)), (.ref t)])) rfl rfl (hb hby d4_95)
        refine own_st (g1 := (mkF m 98 #[.val (.ref o), .val (.long tp), .second, .val (.long la), .second, .val (.int (Int32.ofNat i)), .val (.int (Int32.ofNat d))] [(.ref t), (.int (Int32.ofNat i)), (.ref t)])) (st31) ?_
        refine own_st (g1 := (mkF m 100 #[.val (.ref o), .val (.long tp), .second, .val (.long la), .second, .val (.int (Int32.ofNat i)), .val (.int (Int32.ofNat d))] [(.int (Int32.ofNat d)), (.ref t), (.int (Int32.ofNat i)), (.ref t)])) (fun zt zk => XS.iload X31.here hx rfl (hb hby d4_98) rfl zk) ?_
        refine own_st (g1 := (mkF m 101 #[.val (.ref o), .val (.long tp), .second, .val (.long la), .second, .val (.int (Int32.ofNat i)), .val (.int (Int32.ofNat d))] [(.long (f d)), (.int (Int32.ofNat i)), (.ref t)])) (own_jld X31 hx hZ e31 V (j := d) (v := (.long (f d))) rfl (by omega) (by decide) rfl (g := (mkF m 100 #[.val (.ref o), .val (.long tp), .second, .val (.long la), .second, .val (.int (Int32.ofNat i)), .val (.int (Int32.ofNat d))] [(.int (Int32.ofNat d)), (.ref t), (.int (Int32.ofNat i)), (.ref t)])) rfl rfl (hb hby d4_100)) ?_
        obtain ⟨T32, h32, X32, e32, W32, st32⟩ := own_jst X31 hx hZ e31 V (j := i) rfl (by omega) (by decide) (g := (mkF m 101 #[.val (.ref o), .val (.long tp), .second, .val (.long la), .second, .val (.int (Int32.ofNat i)), .val (.int (Int32.ofNat d))] [(.long (f d)), (.int (Int32.ofNat i)), (.ref t)])) rfl rfl (hb hby d4_101)
        refine own_st (g1 := (mkF m 102 #[.val (.ref o), .val (.long tp), .second, .val (.long la), .second, .val (.int (Int32.ofNat i)), .val (.int (Int32.ofNat d))] [])) (st32) ?_
        refine own_st (g1 := (mkF m 104 #[.val (.ref o), .val (.long tp), .second, .val (.long la), .second, .val (.int (Int32.ofNat i)), .val (.int (Int32.ofNat d))] [(.int (Int32.ofNat d))])) (fun zt zk => XS.iload X32.here hx rfl (hb hby d4_102) rfl zk) ?_
        refine own_st (g1 := (mkF m 106 #[.val (.ref o), .val (.long tp), .second, .val (.long la), .second, .val (.int (Int32.ofNat d)), .val (.int (Int32.ofNat d))] [])) (fun zt zk => XS.istore X32.here hx rfl (hb hby d4_104) rfl (l' := #[.val (.ref o), .val (.long tp), .second, .val (.long la), .second, .val (.int (Int32.ofNat d)), .val (.int (Int32.ofNat d))]) rfl zk) ?_
        refine own_st (g1 := (mkF m 107 #[.val (.ref o), .val (.long tp), .second, .val (.long la), .second, .val (.int (Int32.ofNat d)), .val (.int (Int32.ofNat d))] [(.int (2 : Int32))])) (fun zt zk => XS.iconst X32.here hx rfl (hb hby d4_106) zk) ?_
        refine own_st (g1 := (mkF m 109 #[.val (.ref o), .val (.long tp), .second, .val (.long la), .second, .val (.int (Int32.ofNat d)), .val (.int (Int32.ofNat d))] [(.int (Int32.ofNat d)), (.int (2 : Int32))])) (fun zt zk => XS.iload X32.here hx rfl (hb hby d4_107) rfl zk) ?_
        refine own_st (g1 := (mkF m 110 #[.val (.ref o), .val (.long tp), .second, .val (.long la), .second, .val (.int (Int32.ofNat d)), .val (.int (Int32.ofNat d))] [(.int ((2 : Int32) * (Int32.ofNat d)))])) (fun zt zk => XS.imul X32.here hx rfl (hb hby d4_109) rfl zk) ?_
        refine own_st (g1 := (mkF m 111 #[.val (.ref o), .val (.long tp), .second, .val (.long la), .second, .val (.int (Int32.ofNat d)), .val (.int (Int32.ofNat d))] [(.int (1 : Int32)), (.int ((2 : Int32) * (Int32.ofNat d)))])) (fun zt zk => XS.iconst X32.here hx rfl (hb hby d4_110) zk) ?_
        refine own_st (g1 := (mkF m 112 #[.val (.ref o), .val (.long tp), .second, .val (.long la), .second, .val (.int (Int32.ofNat d)), .val (.int (Int32.ofNat d))] [(.int (((2 : Int32) * (Int32.ofNat d)) + (1 : Int32)))])) (fun zt zk => XS.iadd X32.here hx rfl (hb hby d4_111) rfl zk) ?_
        rw [own_dbl d]
        refine own_st (g1 := (mkF m 114 #[.val (.ref o), .val (.long tp), .second, .val (.long la), .second, .val (.int (Int32.ofNat d)), .val (.int (Int32.ofNat (2 * d + 1)))] [])) (fun zt zk => XS.istore X32.here hx rfl (hb hby d4_112) rfl (l' := #[.val (.ref o), .val (.long tp), .second, .val (.long la), .second, .val (.int (Int32.ofNat d)), .val (.int (Int32.ofNat (2 * d + 1)))]) rfl zk) ?_
        refine own_st (g1 := (mkF m 30 #[.val (.ref o), .val (.long tp), .second, .val (.long la), .second, .val (.int (Int32.ofNat d)), .val (.int (Int32.ofNat (2 * d + 1)))] [])) (fun zt zk => XS.goto X32.here hx rfl (pc0 := 114) (pc' := 30) rfl (hb hby d4_114) (by decide) (by decide) zk) ?_
        refine own_bind (ih d (2 * d + 1) (upd f i (f d)) T32 _ h32 (by omega) (by omega) (by omega) X32 e32 (by rw [Wr.size W32]; exact hz) (Fr.snoc X32 N gt) (H.wr W32 hot) (V.setJ W32)) ?_
        rintro T' L' k' n' g' X' ⟨r1, r2, r3, r4, r5, r6, r7⟩
        exact own_here X' ⟨r1, r2, r3, r4, r5, r6, by rw [own_down_yes (la := la) (f := f) (ch := ch) (sz := sz) hcs (by rw [hke]; exact hl), hke]; exact r7⟩
      · refine own_st (g1 := (mkF m 85 #[.val (.ref o), .val (.long tp), .second, .val (.long la), .second, .val (.int (Int32.ofNat i)), .val (.int (Int32.ofNat d))] [])) (fun zt zk => XS.ifNo X27.here hx rfl (hb hby d4_82) rfl ((if0 _ _).trans (flt (fun q => hl ((lw_lt _ _).mp q))).1) zk) ?_
        refine own_st (g1 := (mkF m 117 #[.val (.ref o), .val (.long tp), .second, .val (.long la), .second, .val (.int (Int32.ofNat i)), .val (.int (Int32.ofNat d))] [])) (fun zt zk => XS.goto X27.here hx rfl (pc0 := 85) (pc' := 117) rfl (hb hby d4_85) (by decide) (by decide) zk) ?_
        refine own_st (g1 := (mkF m 118 #[.val (.ref o), .val (.long tp), .second, .val (.long la), .second, .val (.int (Int32.ofNat i)), .val (.int (Int32.ofNat d))] [(.ref o)])) (fun zt zk => XS.aloadN X27.here hx rfl (hb hby d4_117) rfl rfl zk) ?_
        obtain ⟨T28, X28, e28, st28⟩ := getF X27 hx hZ hown (host := "") (Or.inl (hw _ (List.mem_of_getElem? (i := 10) rfl))) Via.refl e27 H.2.1 (g := (mkF m 118 #[.val (.ref o), .val (.long tp), .second, .val (.long la), .second, .val (.int (Int32.ofNat i)), .val (.int (Int32.ofNat d))] [(.ref o)])) rfl rfl (hb hby d4_118)
        refine own_st (g1 := (mkF m 121 #[.val (.ref o), .val (.long tp), .second, .val (.long la), .second, .val (.int (Int32.ofNat i)), .val (.int (Int32.ofNat d))] [(.ref t)])) (st28) ?_
        refine own_st (g1 := (mkF m 123 #[.val (.ref o), .val (.long tp), .second, .val (.long la), .second, .val (.int (Int32.ofNat i)), .val (.int (Int32.ofNat d))] [(.int (Int32.ofNat i)), (.ref t)])) (fun zt zk => XS.iload X28.here hx rfl (hb hby d4_121) rfl zk) ?_
        refine own_st (g1 := (mkF m 124 #[.val (.ref o), .val (.long tp), .second, .val (.long la), .second, .val (.int (Int32.ofNat i)), .val (.int (Int32.ofNat d))] [(.long la), (.int (Int32.ofNat i)), (.ref t)])) (fun zt zk => XS.lloadN X28.here hx rfl (hb hby d4_123) rfl zk) ?_
        obtain ⟨T29, h29, X29, e29, W29, st29⟩ := own_jst X28 hx hZ e28 V (j := i) rfl (by omega) (by decide) (g := (mkF m 124 #[.val (.ref o), .val (.long tp), .second, .val (.long la), .second, .val (.int (Int32.ofNat i)), .val (.int (Int32.ofNat d))] [(.long la), (.int (Int32.ofNat i)), (.ref t)])) rfl rfl (hb hby d4_124)
        refine own_st (g1 := (mkF m 125 #[.val (.ref o), .val (.long tp), .second, .val (.long la), .second, .val (.int (Int32.ofNat i)), .val (.int (Int32.ofNat d))] [])) (st29) ?_
        exact own_here X29 ⟨rfl, rfl, ⟨_, _, rfl⟩, Fr.snoc X29 N gt, by rw [e29, Wr.size W29]; exact hz, by rw [e29]; exact H.wr W29 hot, by rw [e29, (own_down_no (la := la) (f := f) (ch := ch) (sz := sz) hcs (by rw [hke]; exact hl))]; exact V.setJ W29⟩
    · refine own_st (g1 := (mkF m 117 #[.val (.ref o), .val (.long tp), .second, .val (.long la), .second, .val (.int (Int32.ofNat i)), .val (.int (Int32.ofNat ch))] [])) (fun zt zk => XS.icmpYes X21.here hx rfl (pc0 := 36) (pc' := 117) rfl (hb hby d4_36) rfl (flt (fun u => hcs ((own_lt (i := ch) (j := sz) (by omega) (by omega)).mp u))).2.1 (by decide) (by decide) zk) ?_
      refine own_st (g1 := (mkF m 118 #[.val (.ref o), .val (.long tp), .second, .val (.long la), .second, .val (.int (Int32.ofNat i)), .val (.int (Int32.ofNat ch))] [(.ref o)])) (fun zt zk => XS.aloadN X21.here hx rfl (hb hby d4_117) rfl rfl zk) ?_
      obtain ⟨T22, X22, e22, st22⟩ := getF X21 hx hZ hown (host := "") (Or.inl (hw _ (List.mem_of_getElem? (i := 10) rfl))) Via.refl e21 H.2.1 (g := (mkF m 118 #[.val (.ref o), .val (.long tp), .second, .val (.long la), .second, .val (.int (Int32.ofNat i)), .val (.int (Int32.ofNat ch))] [(.ref o)])) rfl rfl (hb hby d4_118)
      refine own_st (g1 := (mkF m 121 #[.val (.ref o), .val (.long tp), .second, .val (.long la), .second, .val (.int (Int32.ofNat i)), .val (.int (Int32.ofNat ch))] [(.ref t)])) (st22) ?_
      refine own_st (g1 := (mkF m 123 #[.val (.ref o), .val (.long tp), .second, .val (.long la), .second, .val (.int (Int32.ofNat i)), .val (.int (Int32.ofNat ch))] [(.int (Int32.ofNat i)), (.ref t)])) (fun zt zk => XS.iload X22.here hx rfl (hb hby d4_121) rfl zk) ?_
      refine own_st (g1 := (mkF m 124 #[.val (.ref o), .val (.long tp), .second, .val (.long la), .second, .val (.int (Int32.ofNat i)), .val (.int (Int32.ofNat ch))] [(.long la), (.int (Int32.ofNat i)), (.ref t)])) (fun zt zk => XS.lloadN X22.here hx rfl (hb hby d4_123) rfl zk) ?_
      obtain ⟨T23, h23, X23, e23, W23, st23⟩ := own_jst X22 hx hZ e22 V (j := i) rfl (by omega) (by decide) (g := (mkF m 124 #[.val (.ref o), .val (.long tp), .second, .val (.long la), .second, .val (.int (Int32.ofNat i)), .val (.int (Int32.ofNat ch))] [(.long la), (.int (Int32.ofNat i)), (.ref t)])) rfl rfl (hb hby d4_124)
      refine own_st (g1 := (mkF m 125 #[.val (.ref o), .val (.long tp), .second, .val (.long la), .second, .val (.int (Int32.ofNat i)), .val (.int (Int32.ofNat ch))] [])) (st23) ?_
      exact own_here X23 ⟨rfl, rfl, ⟨_, _, rfl⟩, Fr.snoc X23 N gt, by rw [e23, Wr.size W23]; exact hz, by rw [e23]; exact H.wr W23 hot, by rw [e23, (own_down_end (la := la) (f := f) hcs)]; exact V.setJ W23⟩
def Q4 (Z : State) (o t : Nat) (f : Nat → Int64) (k : Nat) (h0 : Heap) (n0 : Nat) (v : Option Value) (h : Heap) (L : List Loc) : Prop := v = some (.long (f 0)) ∧ Fr n0 L ∧ n0 ≤ h.size ∧ Hp Z h o t k ∧ VA Z h t .long 16 (fun j => .long (own_down (f k) k k 0 1 f j))
set_option maxRecDepth 65536 in
set_option maxHeartbeats 40000000 in
theorem rm4 (l : Launch) (Z : State) (a0 : Array Value) (hw : ∀ d ∈ tables_1, d.before a0 Z = true) (ws : List Jvm.Cond) (o t : Nat) (f : Nat → Int64) (k : Nat) (h0 : Heap) (n0 : Nat) (hk : k < 16) (hot : o ≠ t) (go : n0 ≤ o) (gt : n0 ≤ t) (hz : n0 ≤ h0.size) (H : Hp Z h0 o t (k + 1)) (V : VA Z h0 t .long 16 (fun j => .long (f j))) :
    Meets l Z (⟨"com/example/libperturb/libperturb/solver/MinHeap", "pop", "()J"⟩ : MethodName) prog_48_method_4_code 7 (some .long) ws ({ frames := 0, cells := 0, slots := 0, locals := 0 } : Room) #[(.ref o)] h0 0 0 (Q4 Z o t f k h0 n0) := by
  refine own_meets (plainFor_of_name pn_4) ?_
  intro p e s m below meth c s₁ hx hZ hby hml hown hnm hret hlk X0 e0
  have hown : s.vm.findClass "com/example/libperturb/libperturb/solver/MinHeap" = some m.cls := hown
  have hnm : meth.name = "pop" := hnm
  refine own_finJ (l := l) (R := ({ frames := 0, cells := 0, slots := 0, locals := 0 } : Room)) (m := m) (args := #[(.ref o)]) (c := c) hx hret hlk ?_
  refine own_cast (ef_4 m o) ?_
  refine own_st (g1 := (mkF m 1 #[.val (.ref o), .unset, .unset, .unset, .unset, .unset, .unset] [(.ref o)])) (fun zt zk => XS.aloadN X0.here hx rfl (hb hby d4_0) rfl rfl zk) ?_
  obtain ⟨T33, X33, e33, st33⟩ := getF X0 hx hZ hown (host := "") (Or.inl (hw _ (List.mem_of_getElem? (i := 10) rfl))) Via.refl e0 H.2.1 (g := (mkF m 1 #[.val (.ref o), .unset, .unset, .unset, .unset, .unset, .unset] [(.ref o)])) rfl rfl (hb hby d4_1)
  refine own_st (g1 := (mkF m 4 #[.val (.ref o), .unset, .unset, .unset, .unset, .unset, .unset] [(.ref t)])) (st33) ?_
  refine own_st (g1 := (mkF m 5 #[.val (.ref o), .unset, .unset, .unset, .unset, .unset, .unset] [(.int (0 : Int32)), (.ref t)])) (fun zt zk => XS.iconst X33.here hx rfl (hb hby d4_4) zk) ?_
  refine own_st (g1 := (mkF m 6 #[.val (.ref o), .unset, .unset, .unset, .unset, .unset, .unset] [(.long (f 0))])) (own_jld X33 hx hZ e33 V (j := 0) (v := (.long (f 0))) rfl (by decide) (by decide) rfl (g := (mkF m 5 #[.val (.ref o), .unset, .unset, .unset, .unset, .unset, .unset] [(.int (0 : Int32)), (.ref t)])) rfl rfl (hb hby d4_5)) ?_
  refine own_st (g1 := (mkF m 7 #[.val (.ref o), .val (.long (f 0)), .second, .unset, .unset, .unset, .unset] [])) (fun zt zk => XS.lstoreN X33.here hx rfl (hb hby d4_6) rfl (l' := #[.val (.ref o), .val (.long (f 0)), .second, .unset, .unset, .unset, .unset]) rfl zk) ?_
  refine own_st (g1 := (mkF m 8 #[.val (.ref o), .val (.long (f 0)), .second, .unset, .unset, .unset, .unset] [(.ref o)])) (fun zt zk => XS.aloadN X33.here hx rfl (hb hby d4_7) rfl rfl zk) ?_
  obtain ⟨T34, X34, e34, st34⟩ := getF X33 hx hZ hown (host := "") (Or.inl (hw _ (List.mem_of_getElem? (i := 10) rfl))) Via.refl e33 H.2.1 (g := (mkF m 8 #[.val (.ref o), .val (.long (f 0)), .second, .unset, .unset, .unset, .unset] [(.ref o)])) rfl rfl (hb hby d4_8)
  refine own_st (g1 := (mkF m 11 #[.val (.ref o), .val (.long (f 0)), .second, .unset, .unset, .unset, .unset] [(.ref t)])) (st34) ?_
  refine own_st (g1 := (mkF m 12 #[.val (.ref o), .val (.long (f 0)), .second, .unset, .unset, .unset, .unset] [(.ref o), (.ref t)])) (fun zt zk => XS.aloadN X34.here hx rfl (hb hby d4_11) rfl rfl zk) ?_
  refine own_st (g1 := (mkF m 13 #[.val (.ref o), .val (.long (f 0)), .second, .unset, .unset, .unset, .unset] [(.ref o), (.ref o), (.ref t)])) (fun zt zk => XS.dup X34.here hx rfl (hb hby d4_12) rfl rfl zk) ?_
  obtain ⟨T35, X35, e35, st35⟩ := getF X34 hx hZ hown (host := "") (Or.inl (hw _ (List.mem_of_getElem? (i := 17) rfl))) Via.refl e34 H.2.2 (g := (mkF m 13 #[.val (.ref o), .val (.long (f 0)), .second, .unset, .unset, .unset, .unset] [(.ref o), (.ref o), (.ref t)])) rfl rfl (hb hby d4_13)
  refine own_st (g1 := (mkF m 16 #[.val (.ref o), .val (.long (f 0)), .second, .unset, .unset, .unset, .unset] [(.int (Int32.ofNat (k + 1))), (.ref o), (.ref t)])) (st35) ?_
  refine own_st (g1 := (mkF m 17 #[.val (.ref o), .val (.long (f 0)), .second, .unset, .unset, .unset, .unset] [(.int (1 : Int32)), (.int (Int32.ofNat (k + 1))), (.ref o), (.ref t)])) (fun zt zk => XS.iconst X35.here hx rfl (hb hby d4_16) zk) ?_
  refine own_st (g1 := (mkF m 18 #[.val (.ref o), .val (.long (f 0)), .second, .unset, .unset, .unset, .unset] [(.int ((Int32.ofNat (k + 1)) - (1 : Int32))), (.ref o), (.ref t)])) (fun zt zk => XS.isub X35.here hx rfl (hb hby d4_17) rfl zk) ?_
  rw [own_pred k]
  refine own_st (g1 := (mkF m 19 #[.val (.ref o), .val (.long (f 0)), .second, .unset, .unset, .unset, .unset] [(.int (Int32.ofNat k)), (.ref o), (.int (Int32.ofNat k)), (.ref t)])) (fun zt zk => XS.dupX1 X35.here hx rfl (hb hby d4_18) rfl rfl rfl zk) ?_
  obtain ⟨T36, h36, X36, e36, W36, st36⟩ := putF X35 hx hZ hown (host := "") (Or.inl (hw _ (List.mem_of_getElem? (i := 17) rfl))) Via.refl e35 H.2.2 H.1 (Or.inl (hw _ (List.mem_of_getElem? (i := 18) rfl))) (hw _ (List.mem_of_getElem? (i := 1) rfl)) (ty := .int) (by decide) rfl rfl (g := (mkF m 19 #[.val (.ref o), .val (.long (f 0)), .second, .unset, .unset, .unset, .unset] [(.int (Int32.ofNat k)), (.ref o), (.int (Int32.ofNat k)), (.ref t)])) rfl rfl (hb hby d4_19)
  refine own_st (g1 := (mkF m 22 #[.val (.ref o), .val (.long (f 0)), .second, .unset, .unset, .unset, .unset] [(.int (Int32.ofNat k)), (.ref t)])) (st36) ?_
  have H1 : Hp Z h36 o t k := ⟨H.1.wr W36, H.2.1.other W36 (Or.inr (slot_ne (Or.inl (hw _ (List.mem_of_getElem? (i := 11) rfl))) (Or.inl (hw _ (List.mem_of_getElem? (i := 18) rfl))) (by decide) (t := (.array .long)) (t' := .int) (by decide) (by decide))), H.2.2.same W36⟩
  have V1 := V.other W36 (Ne.symm hot)
  refine own_st (g1 := (mkF m 23 #[.val (.ref o), .val (.long (f 0)), .second, .unset, .unset, .unset, .unset] [(.long (f k))])) (own_jld X36 hx hZ e36 V1 (j := k) (v := (.long (f k))) rfl (by omega) (by decide) rfl (g := (mkF m 22 #[.val (.ref o), .val (.long (f 0)), .second, .unset, .unset, .unset, .unset] [(.int (Int32.ofNat k)), (.ref t)])) rfl rfl (hb hby d4_22)) ?_
  refine own_st (g1 := (mkF m 24 #[.val (.ref o), .val (.long (f 0)), .second, .val (.long (f k)), .second, .unset, .unset] [])) (fun zt zk => XS.lstoreN X36.here hx rfl (hb hby d4_23) rfl (l' := #[.val (.ref o), .val (.long (f 0)), .second, .val (.long (f k)), .second, .unset, .unset]) rfl zk) ?_
  refine own_st (g1 := (mkF m 25 #[.val (.ref o), .val (.long (f 0)), .second, .val (.long (f k)), .second, .unset, .unset] [(.int (0 : Int32))])) (fun zt zk => XS.iconst X36.here hx rfl (hb hby d4_24) zk) ?_
  refine own_st (g1 := (mkF m 27 #[.val (.ref o), .val (.long (f 0)), .second, .val (.long (f k)), .second, .val (.int (0 : Int32)), .unset] [])) (fun zt zk => XS.istore X36.here hx rfl (hb hby d4_25) rfl (l' := #[.val (.ref o), .val (.long (f 0)), .second, .val (.long (f k)), .second, .val (.int (0 : Int32)), .unset]) rfl zk) ?_
  refine own_st (g1 := (mkF m 28 #[.val (.ref o), .val (.long (f 0)), .second, .val (.long (f k)), .second, .val (.int (0 : Int32)), .unset] [(.int (1 : Int32))])) (fun zt zk => XS.iconst X36.here hx rfl (hb hby d4_27) zk) ?_
  refine own_st (g1 := (mkF m 30 #[.val (.ref o), .val (.long (f 0)), .second, .val (.long (f k)), .second, .val (.int (0 : Int32)), .val (.int (1 : Int32))] [])) (fun zt zk => XS.istore X36.here hx rfl (hb hby d4_28) rfl (l' := #[.val (.ref o), .val (.long (f 0)), .second, .val (.long (f k)), .second, .val (.int (0 : Int32)), .val (.int (1 : Int32))]) rfl zk) ?_
  refine own_bind (loop4 hx hZ hw hby hml hown hnm o t (f 0) (f k) n0 k hk hot gt k 0 1 f T36 _ h36 (by omega) (by decide) (by decide) X36 e36 (by rw [Wr.size W36]; exact hz) (Fr.snoc X36 (Fr.nil n0) go) H1 V1) ?_
  rintro T' L' k' n' g' X' ⟨rfl, rfl, ⟨i', c', rfl⟩, r4, r5, r6, r7⟩
  refine own_st (g1 := (mkF m 126 #[.val (.ref o), .val (.long (f 0)), .second, .val (.long (f k)), .second, .val (.int i'), .val (.int c')] [(.long (f 0))])) (fun zt zk => XS.lloadN X'.here hx rfl (hb hby d4_125) rfl zk) ?_
  exact own_here X' ⟨126, _, _, rfl, (hb hby d4_126), (by decide), (by decide), ⟨rfl, r4, r5, r6, r7⟩⟩
theorem d5_0 : decode method_3_code 0 = .ok (.aload_n 0, 1) := by decide +kernel
theorem d5_1 : decode method_3_code 1 = .ok (.iload_n 1, 1) := by decide +kernel
theorem d5_2 : decode method_3_code 2 = .ok (.laload, 1) := by decide +kernel
theorem d5_3 : decode method_3_code 3 = .ok (.aload_n 0, 1) := by decide +kernel
theorem d5_4 : decode method_3_code 4 = .ok (.iload_n 2, 1) := by decide +kernel
theorem d5_5 : decode method_3_code 5 = .ok (.laload, 1) := by decide +kernel
theorem d5_6 : decode method_3_code 6 = .ok (.lcmp, 1) := by decide +kernel
theorem d5_7 : decode method_3_code 7 = .ok (.ifCond .le 17, 3) := by decide +kernel
theorem d5_10 : decode method_3_code 10 = .ok (.aload_n 0, 1) := by decide +kernel
theorem d5_11 : decode method_3_code 11 = .ok (.iload_n 1, 1) := by decide +kernel
theorem d5_12 : decode method_3_code 12 = .ok (.laload, 1) := by decide +kernel
theorem d5_13 : decode method_3_code 13 = .ok (.lstore_n 3, 1) := by decide +kernel
theorem d5_14 : decode method_3_code 14 = .ok (.aload_n 0, 1) := by decide +kernel
theorem d5_15 : decode method_3_code 15 = .ok (.iload_n 1, 1) := by decide +kernel
theorem d5_16 : decode method_3_code 16 = .ok (.aload_n 0, 1) := by decide +kernel
theorem d5_17 : decode method_3_code 17 = .ok (.iload_n 2, 1) := by decide +kernel
theorem d5_18 : decode method_3_code 18 = .ok (.laload, 1) := by decide +kernel
theorem d5_19 : decode method_3_code 19 = .ok (.lastore, 1) := by decide +kernel
theorem d5_20 : decode method_3_code 20 = .ok (.aload_n 0, 1) := by decide +kernel
theorem d5_21 : decode method_3_code 21 = .ok (.iload_n 2, 1) := by decide +kernel
theorem d5_22 : decode method_3_code 22 = .ok (.lload_n 3, 1) := by decide +kernel
theorem d5_23 : decode method_3_code 23 = .ok (.lastore, 1) := by decide +kernel
theorem d5_24 : decode method_3_code 24 = .ok (.return_, 1) := by decide +kernel
theorem pn_5 : plainName "com/example/libperturb/libperturb/solver/MinHeapPopPinLaw" = true := by first | (simp [plainName, overriddenIn]; done) | decide +kernel
theorem ef_5 (m : MethodId) (x0 : Nat) (x1 : Int32) (x2 : Int32) : entryFrame m #[(.ref x0), (.int x1), (.int x2)] 5 = mkF m 0 #[.val (.ref x0), .val (.int x1), .val (.int x2), .unset, .unset] [] := by first | (simp [entryFrame, mkF, argsToLocals, Value.category]; done) | rfl
def Q5 (Z : State) (a : Nat) (f : Nat → Int64) (i j : Nat) (h0 : Heap) (n0 : Nat) (v : Option Value) (h : Heap) (L : List Loc) : Prop := v = none ∧ Fr n0 L ∧ VA Z h a .long 5 (fun k => .long (own_cs f i j k))
set_option maxRecDepth 65536 in
set_option maxHeartbeats 40000000 in
theorem rm5 (l : Launch) (Z : State) (a0 : Array Value) (hw : ∀ d ∈ tables_1, d.before a0 Z = true) (ws : List Jvm.Cond) (a : Nat) (f : Nat → Int64) (i j : Nat) (h0 : Heap) (n0 : Nat) (hi : i < 5) (hj : j < 5) (ga : n0 ≤ a) (V : VA Z h0 a .long 5 (fun k => .long (f k))) :
    Meets l Z (⟨"com/example/libperturb/libperturb/solver/MinHeapPopPinLaw", "cs", "([JII)V"⟩ : MethodName) method_3_code 5 none ws ({ frames := 0, cells := 0, slots := 0, locals := 0 } : Room) #[(.ref a), (.int (Int32.ofNat i)), (.int (Int32.ofNat j))] h0 0 0 (Q5 Z a f i j h0 n0) := by
  refine own_meets (plainFor_of_name pn_5) ?_
  intro p e s m below meth c s₁ hx hZ hby hml hown hnm hret hlk X0 e0
  have hown : s.vm.findClass "com/example/libperturb/libperturb/solver/MinHeapPopPinLaw" = some m.cls := hown
  have hnm : meth.name = "cs" := hnm
  refine own_finV (l := l) (R := ({ frames := 0, cells := 0, slots := 0, locals := 0 } : Room)) (m := m) (args := #[(.ref a), (.int (Int32.ofNat i)), (.int (Int32.ofNat j))]) (c := c) hx hret hlk ?_
  refine own_cast (ef_5 m a (Int32.ofNat i) (Int32.ofNat j)) ?_
  refine own_st (g1 := (mkF m 1 #[.val (.ref a), .val (.int (Int32.ofNat i)), .val (.int (Int32.ofNat j)), .unset, .unset] [(.ref a)])) (fun zt zk => XS.aloadN X0.here hx rfl (hb hby d5_0) rfl rfl zk) ?_
  refine own_st (g1 := (mkF m 2 #[.val (.ref a), .val (.int (Int32.ofNat i)), .val (.int (Int32.ofNat j)), .unset, .unset] [(.int (Int32.ofNat i)), (.ref a)])) (fun zt zk => XS.iloadN X0.here hx rfl (hb hby d5_1) rfl zk) ?_
  refine own_st (g1 := (mkF m 3 #[.val (.ref a), .val (.int (Int32.ofNat i)), .val (.int (Int32.ofNat j)), .unset, .unset] [(.long (f i))])) (own_jld X0 hx hZ e0 V (j := i) (v := (.long (f i))) rfl hi (by decide) rfl (g := (mkF m 2 #[.val (.ref a), .val (.int (Int32.ofNat i)), .val (.int (Int32.ofNat j)), .unset, .unset] [(.int (Int32.ofNat i)), (.ref a)])) rfl rfl (hb hby d5_2)) ?_
  refine own_st (g1 := (mkF m 4 #[.val (.ref a), .val (.int (Int32.ofNat i)), .val (.int (Int32.ofNat j)), .unset, .unset] [(.ref a), (.long (f i))])) (fun zt zk => XS.aloadN X0.here hx rfl (hb hby d5_3) rfl rfl zk) ?_
  refine own_st (g1 := (mkF m 5 #[.val (.ref a), .val (.int (Int32.ofNat i)), .val (.int (Int32.ofNat j)), .unset, .unset] [(.int (Int32.ofNat j)), (.ref a), (.long (f i))])) (fun zt zk => XS.iloadN X0.here hx rfl (hb hby d5_4) rfl zk) ?_
  refine own_st (g1 := (mkF m 6 #[.val (.ref a), .val (.int (Int32.ofNat i)), .val (.int (Int32.ofNat j)), .unset, .unset] [(.long (f j)), (.long (f i))])) (own_jld X0 hx hZ e0 V (j := j) (v := (.long (f j))) rfl hj (by decide) rfl (g := (mkF m 5 #[.val (.ref a), .val (.int (Int32.ofNat i)), .val (.int (Int32.ofNat j)), .unset, .unset] [(.int (Int32.ofNat j)), (.ref a), (.long (f i))])) rfl rfl (hb hby d5_5)) ?_
  refine own_st (g1 := (mkF m 7 #[.val (.ref a), .val (.int (Int32.ofNat i)), .val (.int (Int32.ofNat j)), .unset, .unset] [(.int (lcmpW (f i) (f j)))])) (fun zt zk => XS.lcmp X0.here hx rfl (hb hby d5_6) rfl zk) ?_
  by_cases hc : (f j) < (f i)
  · refine own_st (g1 := (mkF m 10 #[.val (.ref a), .val (.int (Int32.ofNat i)), .val (.int (Int32.ofNat j)), .unset, .unset] [])) (fun zt zk => XS.ifNo X0.here hx rfl (hb hby d5_7) rfl ((if0 _ _).trans (tlt ((lw_gt _ _).mpr hc)).2.2.2) zk) ?_
    refine own_st (g1 := (mkF m 11 #[.val (.ref a), .val (.int (Int32.ofNat i)), .val (.int (Int32.ofNat j)), .unset, .unset] [(.ref a)])) (fun zt zk => XS.aloadN X0.here hx rfl (hb hby d5_10) rfl rfl zk) ?_
    refine own_st (g1 := (mkF m 12 #[.val (.ref a), .val (.int (Int32.ofNat i)), .val (.int (Int32.ofNat j)), .unset, .unset] [(.int (Int32.ofNat i)), (.ref a)])) (fun zt zk => XS.iloadN X0.here hx rfl (hb hby d5_11) rfl zk) ?_
    refine own_st (g1 := (mkF m 13 #[.val (.ref a), .val (.int (Int32.ofNat i)), .val (.int (Int32.ofNat j)), .unset, .unset] [(.long (f i))])) (own_jld X0 hx hZ e0 V (j := i) (v := (.long (f i))) rfl hi (by decide) rfl (g := (mkF m 12 #[.val (.ref a), .val (.int (Int32.ofNat i)), .val (.int (Int32.ofNat j)), .unset, .unset] [(.int (Int32.ofNat i)), (.ref a)])) rfl rfl (hb hby d5_12)) ?_
    refine own_st (g1 := (mkF m 14 #[.val (.ref a), .val (.int (Int32.ofNat i)), .val (.int (Int32.ofNat j)), .val (.long (f i)), .second] [])) (fun zt zk => XS.lstoreN X0.here hx rfl (hb hby d5_13) rfl (l' := #[.val (.ref a), .val (.int (Int32.ofNat i)), .val (.int (Int32.ofNat j)), .val (.long (f i)), .second]) rfl zk) ?_
    refine own_st (g1 := (mkF m 15 #[.val (.ref a), .val (.int (Int32.ofNat i)), .val (.int (Int32.ofNat j)), .val (.long (f i)), .second] [(.ref a)])) (fun zt zk => XS.aloadN X0.here hx rfl (hb hby d5_14) rfl rfl zk) ?_
    refine own_st (g1 := (mkF m 16 #[.val (.ref a), .val (.int (Int32.ofNat i)), .val (.int (Int32.ofNat j)), .val (.long (f i)), .second] [(.int (Int32.ofNat i)), (.ref a)])) (fun zt zk => XS.iloadN X0.here hx rfl (hb hby d5_15) rfl zk) ?_
    refine own_st (g1 := (mkF m 17 #[.val (.ref a), .val (.int (Int32.ofNat i)), .val (.int (Int32.ofNat j)), .val (.long (f i)), .second] [(.ref a), (.int (Int32.ofNat i)), (.ref a)])) (fun zt zk => XS.aloadN X0.here hx rfl (hb hby d5_16) rfl rfl zk) ?_
    refine own_st (g1 := (mkF m 18 #[.val (.ref a), .val (.int (Int32.ofNat i)), .val (.int (Int32.ofNat j)), .val (.long (f i)), .second] [(.int (Int32.ofNat j)), (.ref a), (.int (Int32.ofNat i)), (.ref a)])) (fun zt zk => XS.iloadN X0.here hx rfl (hb hby d5_17) rfl zk) ?_
    refine own_st (g1 := (mkF m 19 #[.val (.ref a), .val (.int (Int32.ofNat i)), .val (.int (Int32.ofNat j)), .val (.long (f i)), .second] [(.long (f j)), (.int (Int32.ofNat i)), (.ref a)])) (own_jld X0 hx hZ e0 V (j := j) (v := (.long (f j))) rfl hj (by decide) rfl (g := (mkF m 18 #[.val (.ref a), .val (.int (Int32.ofNat i)), .val (.int (Int32.ofNat j)), .val (.long (f i)), .second] [(.int (Int32.ofNat j)), (.ref a), (.int (Int32.ofNat i)), (.ref a)])) rfl rfl (hb hby d5_18)) ?_
    obtain ⟨T37, h37, X37, e37, W37, st37⟩ := own_jst X0 hx hZ e0 V (j := i) rfl hi (by decide) (g := (mkF m 19 #[.val (.ref a), .val (.int (Int32.ofNat i)), .val (.int (Int32.ofNat j)), .val (.long (f i)), .second] [(.long (f j)), (.int (Int32.ofNat i)), (.ref a)])) rfl rfl (hb hby d5_19)
    refine own_st (g1 := (mkF m 20 #[.val (.ref a), .val (.int (Int32.ofNat i)), .val (.int (Int32.ofNat j)), .val (.long (f i)), .second] [])) (st37) ?_
    have V1 := V.setJ W37
    have N1 := Fr.snoc X37 (Fr.nil n0) ga
    refine own_st (g1 := (mkF m 21 #[.val (.ref a), .val (.int (Int32.ofNat i)), .val (.int (Int32.ofNat j)), .val (.long (f i)), .second] [(.ref a)])) (fun zt zk => XS.aloadN X37.here hx rfl (hb hby d5_20) rfl rfl zk) ?_
    refine own_st (g1 := (mkF m 22 #[.val (.ref a), .val (.int (Int32.ofNat i)), .val (.int (Int32.ofNat j)), .val (.long (f i)), .second] [(.int (Int32.ofNat j)), (.ref a)])) (fun zt zk => XS.iloadN X37.here hx rfl (hb hby d5_21) rfl zk) ?_
    refine own_st (g1 := (mkF m 23 #[.val (.ref a), .val (.int (Int32.ofNat i)), .val (.int (Int32.ofNat j)), .val (.long (f i)), .second] [(.long (f i)), (.int (Int32.ofNat j)), (.ref a)])) (fun zt zk => XS.lloadN X37.here hx rfl (hb hby d5_22) rfl zk) ?_
    obtain ⟨T38, h38, X38, e38, W38, st38⟩ := own_jst X37 hx hZ e37 V1 (j := j) rfl hj (by decide) (g := (mkF m 23 #[.val (.ref a), .val (.int (Int32.ofNat i)), .val (.int (Int32.ofNat j)), .val (.long (f i)), .second] [(.long (f i)), (.int (Int32.ofNat j)), (.ref a)])) rfl rfl (hb hby d5_23)
    refine own_st (g1 := (mkF m 24 #[.val (.ref a), .val (.int (Int32.ofNat i)), .val (.int (Int32.ofNat j)), .val (.long (f i)), .second] [])) (st38) ?_
    have V2 := V1.setJ W38
    have N2 := Fr.snoc X38 N1 ga
    have hq := own_cs_yes (i := i) (j := j) hc
    exact own_here X38 ⟨24, _, rfl, (hb hby d5_24), (by decide), (by decide), (by rw [e38]; exact ⟨rfl, N2, by rw [hq]; exact V2⟩)⟩
  · refine own_st (g1 := (mkF m 24 #[.val (.ref a), .val (.int (Int32.ofNat i)), .val (.int (Int32.ofNat j)), .unset, .unset] [])) (fun zt zk => XS.ifYes X0.here hx rfl (pc0 := 7) (pc' := 24) rfl (hb hby d5_7) rfl ((if0 _ _).trans (flt (fun q => hc ((lw_gt _ _).mp q))).2.2.2) (by decide) (by decide) zk) ?_
    have hq := own_cs_no (i := i) (j := j) hc
    exact own_here X0 ⟨24, _, rfl, (hb hby d5_24), (by decide), (by decide), (by rw [e0]; exact ⟨rfl, Fr.nil n0, by rw [hq]; exact V⟩)⟩
theorem pn_0 : plainName "com/example/libperturb/libperturb/solver/MinHeapPopPinLaw" = true := by first | (simp [plainName, overriddenIn]; done) | decide +kernel
theorem ef_0 (m : MethodId) (x0 : Int64) (x1 : Int64) (x2 : Int64) (x3 : Int64) (x4 : Int64) : entryFrame m #[(.long x0), (.long x1), (.long x2), (.long x3), (.long x4)] maxLocals = mkF m 0 #[.val (.long x0), .second, .val (.long x1), .second, .val (.long x2), .second, .val (.long x3), .second, .val (.long x4), .second, .unset, .unset, .unset, .unset, .unset, .unset, .unset, .unset, .unset, .unset, .unset, .unset] [] := by first | (simp [entryFrame, mkF, argsToLocals, Value.category, maxLocals]; done) | rfl
def Q0 (h0 : Heap) (n0 : Nat) (v : Option Value) (h : Heap) (L : List Loc) : Prop := v = some (.int (1 : Int32)) ∧ Fr n0 L
set_option maxRecDepth 65536 in
set_option maxHeartbeats 40000000 in
theorem rm0 (l : Launch) (Z : State) (a0 : Array Value) (hw : ∀ d ∈ tables_1, d.before a0 Z = true) (ws : List Jvm.Cond) (q1 q2 q3 q4 q5 : Int64) (h0 : Heap) (n0 : Nat) (Z0 : n0 ≤ h0.size) :
    Meets l Z x code maxLocals ret ws room_1 #[(.long q1), (.long q2), (.long q3), (.long q4), (.long q5)] h0 3 23 (Q0 h0 n0) := by
  refine own_meets (plainFor_of_name pn_0) ?_
  intro p e s m below meth c s₁ hx hZ hby hml hown hnm hret hlk X0 e0
  have hown : s.vm.findClass "com/example/libperturb/libperturb/solver/MinHeapPopPinLaw" = some m.cls := hown
  have hnm : meth.name = "law" := hnm
  refine own_finN (l := l) (R := room_1) (m := m) (args := #[(.long q1), (.long q2), (.long q3), (.long q4), (.long q5)]) (c := c) (by simp) hx hret hlk ?_
  refine own_cast (ef_0 m q1 q2 q3 q4 q5) ?_
  obtain ⟨T39, h39, X39, e39, E39, A39, D39, -, st39⟩ := newO X0 hx hZ hown (hw _ (List.mem_of_getElem? (i := 0) rfl)) (hw _ (List.mem_of_getElem? (i := 1) rfl)) (hw _ (List.mem_of_getElem? (i := 2) rfl)) e0 (g := (mkF m 0 #[.val (.long q1), .second, .val (.long q2), .second, .val (.long q3), .second, .val (.long q4), .second, .val (.long q5), .second, .unset, .unset, .unset, .unset, .unset, .unset, .unset, .unset, .unset, .unset, .unset, .unset] [])) rfl (hb hby at_0) (by decide) (by decide)
  obtain ⟨b39, g39⟩ : ∃ z, z = h0.size := ⟨_, rfl⟩
  rw [← g39] at A39 D39 st39
  refine own_st (g1 := (mkF m 3 #[.val (.long q1), .second, .val (.long q2), .second, .val (.long q3), .second, .val (.long q4), .second, .val (.long q5), .second, .unset, .unset, .unset, .unset, .unset, .unset, .unset, .unset, .unset, .unset, .unset, .unset] [(.ref b39)])) (st39) ?_
  have F1 : Fld Z h39 b39 "com/example/libperturb/libperturb/solver/MinHeap" "keys" "[J" .null := D39 (Or.inl (hw _ (List.mem_of_getElem? (i := 11) rfl))) (ty := (.array .long)) (by decide)
  have F2 : Fld Z h39 b39 "com/example/libperturb/libperturb/solver/MinHeap" "size" "I" (.int (0 : Int32)) := D39 (Or.inl (hw _ (List.mem_of_getElem? (i := 18) rfl))) (ty := .int) (by decide)
  have Za := Nat.le_trans Z0 E39.1
  have go : n0 ≤ b39 := by omega
  refine own_st (g1 := (mkF m 4 #[.val (.long q1), .second, .val (.long q2), .second, .val (.long q3), .second, .val (.long q4), .second, .val (.long q5), .second, .unset, .unset, .unset, .unset, .unset, .unset, .unset, .unset, .unset, .unset, .unset, .unset] [(.ref b39), (.ref b39)])) (fun zt zk => XS.dup X39.here hx rfl (hb hby at_3) rfl rfl zk) ?_
  obtain ⟨_, _, ⟨T40, L40, k40, n40⟩, -, X40, ⟨Lc40, hQ40, l40, y40, z40⟩, st40⟩ := X39.specialBack hx (y := (⟨"com/example/libperturb/libperturb/solver/MinHeap", "<init>", "()V"⟩ : MethodName)) rfl hown (mvT hZ (hw _ (List.mem_of_getElem? (i := 3) rfl))) (mvT hZ (hw _ (List.mem_of_getElem? (i := 4) rfl))) (mvT hZ (hw _ (List.mem_of_getElem? (i := 5) rfl))) (by decide) (backOf (W := 1) (rm1 l Z a0 hw [] b39 h39 n0 Za A39 F1 F2 go) hZ (hw _ (List.mem_of_getElem? (i := 5) rfl)) (hw _ (List.mem_of_getElem? (i := 2) rfl)) (by decide) (by decide)) (g := (mkF m 4 #[.val (.long q1), .second, .val (.long q2), .second, .val (.long q3), .second, .val (.long q4), .second, .val (.long q5), .second, .unset, .unset, .unset, .unset, .unset, .unset, .unset, .unset, .unset, .unset, .unset, .unset] [(.ref b39), (.ref b39)])) rfl (by rw [hml]; rfl) (Steps.refl _) (a := b39) (argsL := []) (rest := [(.ref b39)]) (lenOf pd_0 rfl) rfl (by show 2 * 0 + _ ≤ _; exact Nat.le_of_eq rfl) (hb hby at_4) (fun _ _ => ⟨rfl, e39, (by decide : 0 + 1 + 1 ≤ _), (by decide : 0 + 2 + 16 ≤ _)⟩)
  dsimp only [Pt.U, Pt.locs, Pt.cells, Pt.slots] at X40 l40 y40 z40 st40 hQ40
  replace X40 := own_stand X40 l40 y40 z40
  clear l40 y40 z40
  obtain ⟨t, rfl, N40, gt, hot, Z40, H40, V40⟩ := hQ40
  refine own_st (g1 := (mkF m 7 #[.val (.long q1), .second, .val (.long q2), .second, .val (.long q3), .second, .val (.long q4), .second, .val (.long q5), .second, .unset, .unset, .unset, .unset, .unset, .unset, .unset, .unset, .unset, .unset, .unset, .unset] [(.ref b39)])) (fun zt zk => st40.trans zk) ?_
  obtain ⟨f0, hf0⟩ : ∃ f : Nat → Int64, f = fun _ => 0 := ⟨_, rfl⟩
  have V40 : VA Z T40.heap t .long 16 (fun j => .long (f0 j)) := by rw [hf0]; exact V40
  have M0 := Fr.app (Fr.nil n0) N40
  refine own_st (g1 := (mkF m 9 #[.val (.long q1), .second, .val (.long q2), .second, .val (.long q3), .second, .val (.long q4), .second, .val (.long q5), .second, .val (.ref b39), .unset, .unset, .unset, .unset, .unset, .unset, .unset, .unset, .unset, .unset, .unset] [])) (fun zt zk => XS.astore X40.here hx rfl (hb hby at_7) rfl rfl (l' := #[.val (.long q1), .second, .val (.long q2), .second, .val (.long q3), .second, .val (.long q4), .second, .val (.long q5), .second, .val (.ref b39), .unset, .unset, .unset, .unset, .unset, .unset, .unset, .unset, .unset, .unset, .unset]) rfl zk) ?_
  refine own_st (g1 := (mkF m 11 #[.val (.long q1), .second, .val (.long q2), .second, .val (.long q3), .second, .val (.long q4), .second, .val (.long q5), .second, .val (.ref b39), .unset, .unset, .unset, .unset, .unset, .unset, .unset, .unset, .unset, .unset, .unset] [(.ref b39)])) (fun zt zk => XS.aload X40.here hx rfl (hb hby at_9) rfl rfl zk) ?_
  refine own_st (g1 := (mkF m 12 #[.val (.long q1), .second, .val (.long q2), .second, .val (.long q3), .second, .val (.long q4), .second, .val (.long q5), .second, .val (.ref b39), .unset, .unset, .unset, .unset, .unset, .unset, .unset, .unset, .unset, .unset, .unset] [(.long q1), (.ref b39)])) (fun zt zk => XS.lloadN X40.here hx rfl (hb hby at_11) rfl zk) ?_
  obtain ⟨cq41, kq41, q41a, q41b, q41c⟩ := isOf hZ rfl H40.1
  obtain ⟨_, _, ⟨T41, L41, k41, n41⟩, -, X41, ⟨Lc41, hQ41, l41, y41, z41⟩, st41⟩ := X40.virtualBack hx (y := (⟨"com/example/libperturb/libperturb/solver/MinHeap", "push", "(J)V"⟩ : MethodName)) (z := (⟨"com/example/libperturb/libperturb/solver/MinHeap", "push", "(J)V"⟩ : MethodName)) hown (mvT hZ (hw _ (List.mem_of_getElem? (i := 12) rfl))) (mvT hZ (hw _ (List.mem_of_getElem? (i := 13) rfl))) (notFace_of_selects (args := #[]) (mvT hZ (hw _ (List.mem_of_getElem? (i := 15) rfl)))) (mvT hZ (hw _ (List.mem_of_getElem? (i := 15) rfl))) (mvT hZ (hw _ (List.mem_of_getElem? (i := 14) rfl))) (by decide) (backOf (W := 0) (rm3 l Z a0 hw [] b39 t f0 0 q1 T40.heap n0 (by decide) hot go gt Z40 H40 V40) hZ (hw _ (List.mem_of_getElem? (i := 16) rfl)) (hw _ (List.mem_of_getElem? (i := 2) rfl)) (by decide) (by decide)) q41a q41c (g := (mkF m 12 #[.val (.long q1), .second, .val (.long q2), .second, .val (.long q3), .second, .val (.long q4), .second, .val (.long q5), .second, .val (.ref b39), .unset, .unset, .unset, .unset, .unset, .unset, .unset, .unset, .unset, .unset, .unset] [(.long q1), (.ref b39)])) rfl (by rw [hml]; rfl) (Steps.refl _) (argsL := [(.long q1)]) (rest := []) (lenOf pd_1 rfl) rfl (by show 2 * 0 + _ ≤ _; exact Nat.le_of_eq rfl) (hb hby at_12) (fun _ _ => ⟨rfl, rfl, (by decide : 0 + 1 + 1 + 0 ≤ _), (by decide : 0 + 2 + 16 + 0 ≤ _)⟩)
  dsimp only [Pt.U, Pt.locs, Pt.cells, Pt.slots] at X41 l41 y41 z41 st41 hQ41
  replace X41 := own_stand X41 l41 y41 z41
  clear l41 y41 z41
  obtain ⟨rfl, N41, Z41, H41, V41⟩ := hQ41
  refine own_st (g1 := (mkF m 15 #[.val (.long q1), .second, .val (.long q2), .second, .val (.long q3), .second, .val (.long q4), .second, .val (.long q5), .second, .val (.ref b39), .unset, .unset, .unset, .unset, .unset, .unset, .unset, .unset, .unset, .unset, .unset] [])) (fun zt zk => st41.trans zk) ?_
  obtain ⟨f1, hf1⟩ : ∃ f : Nat → Int64, f = own_up q1 0 0 f0 := ⟨_, rfl⟩
  rw [← hf1] at V41
  have M1 := Fr.app M0 N41
  refine own_st (g1 := (mkF m 17 #[.val (.long q1), .second, .val (.long q2), .second, .val (.long q3), .second, .val (.long q4), .second, .val (.long q5), .second, .val (.ref b39), .unset, .unset, .unset, .unset, .unset, .unset, .unset, .unset, .unset, .unset, .unset] [(.ref b39)])) (fun zt zk => XS.aload X41.here hx rfl (hb hby at_15) rfl rfl zk) ?_
  refine own_st (g1 := (mkF m 18 #[.val (.long q1), .second, .val (.long q2), .second, .val (.long q3), .second, .val (.long q4), .second, .val (.long q5), .second, .val (.ref b39), .unset, .unset, .unset, .unset, .unset, .unset, .unset, .unset, .unset, .unset, .unset] [(.long q2), (.ref b39)])) (fun zt zk => XS.lloadN X41.here hx rfl (hb hby at_17) rfl zk) ?_
  obtain ⟨cq42, kq42, q42a, q42b, q42c⟩ := isOf hZ rfl H41.1
  obtain ⟨_, _, ⟨T42, L42, k42, n42⟩, -, X42, ⟨Lc42, hQ42, l42, y42, z42⟩, st42⟩ := X41.virtualBack hx (y := (⟨"com/example/libperturb/libperturb/solver/MinHeap", "push", "(J)V"⟩ : MethodName)) (z := (⟨"com/example/libperturb/libperturb/solver/MinHeap", "push", "(J)V"⟩ : MethodName)) hown (mvT hZ (hw _ (List.mem_of_getElem? (i := 12) rfl))) (mvT hZ (hw _ (List.mem_of_getElem? (i := 13) rfl))) (notFace_of_selects (args := #[]) (mvT hZ (hw _ (List.mem_of_getElem? (i := 15) rfl)))) (mvT hZ (hw _ (List.mem_of_getElem? (i := 15) rfl))) (mvT hZ (hw _ (List.mem_of_getElem? (i := 14) rfl))) (by decide) (backOf (W := 0) (rm3 l Z a0 hw [] b39 t f1 1 q2 T41.heap n0 (by decide) hot go gt Z41 H41 V41) hZ (hw _ (List.mem_of_getElem? (i := 16) rfl)) (hw _ (List.mem_of_getElem? (i := 2) rfl)) (by decide) (by decide)) q42a q42c (g := (mkF m 18 #[.val (.long q1), .second, .val (.long q2), .second, .val (.long q3), .second, .val (.long q4), .second, .val (.long q5), .second, .val (.ref b39), .unset, .unset, .unset, .unset, .unset, .unset, .unset, .unset, .unset, .unset, .unset] [(.long q2), (.ref b39)])) rfl (by rw [hml]; rfl) (Steps.refl _) (argsL := [(.long q2)]) (rest := []) (lenOf pd_1 rfl) rfl (by show 2 * 0 + _ ≤ _; exact Nat.le_of_eq rfl) (hb hby at_18) (fun _ _ => ⟨rfl, rfl, (by decide : 0 + 1 + 1 + 0 + 0 ≤ _), (by decide : 0 + 2 + 16 + 0 + 0 ≤ _)⟩)
  dsimp only [Pt.U, Pt.locs, Pt.cells, Pt.slots] at X42 l42 y42 z42 st42 hQ42
  replace X42 := own_stand X42 l42 y42 z42
  clear l42 y42 z42
  obtain ⟨rfl, N42, Z42, H42, V42⟩ := hQ42
  refine own_st (g1 := (mkF m 21 #[.val (.long q1), .second, .val (.long q2), .second, .val (.long q3), .second, .val (.long q4), .second, .val (.long q5), .second, .val (.ref b39), .unset, .unset, .unset, .unset, .unset, .unset, .unset, .unset, .unset, .unset, .unset] [])) (fun zt zk => st42.trans zk) ?_
  obtain ⟨f2, hf2⟩ : ∃ f : Nat → Int64, f = own_up q2 1 1 f1 := ⟨_, rfl⟩
  rw [← hf2] at V42
  have M2 := Fr.app M1 N42
  refine own_st (g1 := (mkF m 23 #[.val (.long q1), .second, .val (.long q2), .second, .val (.long q3), .second, .val (.long q4), .second, .val (.long q5), .second, .val (.ref b39), .unset, .unset, .unset, .unset, .unset, .unset, .unset, .unset, .unset, .unset, .unset] [(.ref b39)])) (fun zt zk => XS.aload X42.here hx rfl (hb hby at_21) rfl rfl zk) ?_
  refine own_st (g1 := (mkF m 25 #[.val (.long q1), .second, .val (.long q2), .second, .val (.long q3), .second, .val (.long q4), .second, .val (.long q5), .second, .val (.ref b39), .unset, .unset, .unset, .unset, .unset, .unset, .unset, .unset, .unset, .unset, .unset] [(.long q3), (.ref b39)])) (fun zt zk => XS.lload X42.here hx rfl (hb hby at_23) rfl zk) ?_
  obtain ⟨cq43, kq43, q43a, q43b, q43c⟩ := isOf hZ rfl H42.1
  obtain ⟨_, _, ⟨T43, L43, k43, n43⟩, -, X43, ⟨Lc43, hQ43, l43, y43, z43⟩, st43⟩ := X42.virtualBack hx (y := (⟨"com/example/libperturb/libperturb/solver/MinHeap", "push", "(J)V"⟩ : MethodName)) (z := (⟨"com/example/libperturb/libperturb/solver/MinHeap", "push", "(J)V"⟩ : MethodName)) hown (mvT hZ (hw _ (List.mem_of_getElem? (i := 12) rfl))) (mvT hZ (hw _ (List.mem_of_getElem? (i := 13) rfl))) (notFace_of_selects (args := #[]) (mvT hZ (hw _ (List.mem_of_getElem? (i := 15) rfl)))) (mvT hZ (hw _ (List.mem_of_getElem? (i := 15) rfl))) (mvT hZ (hw _ (List.mem_of_getElem? (i := 14) rfl))) (by decide) (backOf (W := 0) (rm3 l Z a0 hw [] b39 t f2 2 q3 T42.heap n0 (by decide) hot go gt Z42 H42 V42) hZ (hw _ (List.mem_of_getElem? (i := 16) rfl)) (hw _ (List.mem_of_getElem? (i := 2) rfl)) (by decide) (by decide)) q43a q43c (g := (mkF m 25 #[.val (.long q1), .second, .val (.long q2), .second, .val (.long q3), .second, .val (.long q4), .second, .val (.long q5), .second, .val (.ref b39), .unset, .unset, .unset, .unset, .unset, .unset, .unset, .unset, .unset, .unset, .unset] [(.long q3), (.ref b39)])) rfl (by rw [hml]; rfl) (Steps.refl _) (argsL := [(.long q3)]) (rest := []) (lenOf pd_1 rfl) rfl (by show 2 * 0 + _ ≤ _; exact Nat.le_of_eq rfl) (hb hby at_25) (fun _ _ => ⟨rfl, rfl, (by decide : 0 + 1 + 1 + 0 + 0 + 0 ≤ _), (by decide : 0 + 2 + 16 + 0 + 0 + 0 ≤ _)⟩)
  dsimp only [Pt.U, Pt.locs, Pt.cells, Pt.slots] at X43 l43 y43 z43 st43 hQ43
  replace X43 := own_stand X43 l43 y43 z43
  clear l43 y43 z43
  obtain ⟨rfl, N43, Z43, H43, V43⟩ := hQ43
  refine own_st (g1 := (mkF m 28 #[.val (.long q1), .second, .val (.long q2), .second, .val (.long q3), .second, .val (.long q4), .second, .val (.long q5), .second, .val (.ref b39), .unset, .unset, .unset, .unset, .unset, .unset, .unset, .unset, .unset, .unset, .unset] [])) (fun zt zk => st43.trans zk) ?_
  obtain ⟨f3, hf3⟩ : ∃ f : Nat → Int64, f = own_up q3 2 2 f2 := ⟨_, rfl⟩
  rw [← hf3] at V43
  have M3 := Fr.app M2 N43
  refine own_st (g1 := (mkF m 30 #[.val (.long q1), .second, .val (.long q2), .second, .val (.long q3), .second, .val (.long q4), .second, .val (.long q5), .second, .val (.ref b39), .unset, .unset, .unset, .unset, .unset, .unset, .unset, .unset, .unset, .unset, .unset] [(.ref b39)])) (fun zt zk => XS.aload X43.here hx rfl (hb hby at_28) rfl rfl zk) ?_
  refine own_st (g1 := (mkF m 32 #[.val (.long q1), .second, .val (.long q2), .second, .val (.long q3), .second, .val (.long q4), .second, .val (.long q5), .second, .val (.ref b39), .unset, .unset, .unset, .unset, .unset, .unset, .unset, .unset, .unset, .unset, .unset] [(.long q4), (.ref b39)])) (fun zt zk => XS.lload X43.here hx rfl (hb hby at_30) rfl zk) ?_
  obtain ⟨cq44, kq44, q44a, q44b, q44c⟩ := isOf hZ rfl H43.1
  obtain ⟨_, _, ⟨T44, L44, k44, n44⟩, -, X44, ⟨Lc44, hQ44, l44, y44, z44⟩, st44⟩ := X43.virtualBack hx (y := (⟨"com/example/libperturb/libperturb/solver/MinHeap", "push", "(J)V"⟩ : MethodName)) (z := (⟨"com/example/libperturb/libperturb/solver/MinHeap", "push", "(J)V"⟩ : MethodName)) hown (mvT hZ (hw _ (List.mem_of_getElem? (i := 12) rfl))) (mvT hZ (hw _ (List.mem_of_getElem? (i := 13) rfl))) (notFace_of_selects (args := #[]) (mvT hZ (hw _ (List.mem_of_getElem? (i := 15) rfl)))) (mvT hZ (hw _ (List.mem_of_getElem? (i := 15) rfl))) (mvT hZ (hw _ (List.mem_of_getElem? (i := 14) rfl))) (by decide) (backOf (W := 0) (rm3 l Z a0 hw [] b39 t f3 3 q4 T43.heap n0 (by decide) hot go gt Z43 H43 V43) hZ (hw _ (List.mem_of_getElem? (i := 16) rfl)) (hw _ (List.mem_of_getElem? (i := 2) rfl)) (by decide) (by decide)) q44a q44c (g := (mkF m 32 #[.val (.long q1), .second, .val (.long q2), .second, .val (.long q3), .second, .val (.long q4), .second, .val (.long q5), .second, .val (.ref b39), .unset, .unset, .unset, .unset, .unset, .unset, .unset, .unset, .unset, .unset, .unset] [(.long q4), (.ref b39)])) rfl (by rw [hml]; rfl) (Steps.refl _) (argsL := [(.long q4)]) (rest := []) (lenOf pd_1 rfl) rfl (by show 2 * 0 + _ ≤ _; exact Nat.le_of_eq rfl) (hb hby at_32) (fun _ _ => ⟨rfl, rfl, (by decide : 0 + 1 + 1 + 0 + 0 + 0 + 0 ≤ _), (by decide : 0 + 2 + 16 + 0 + 0 + 0 + 0 ≤ _)⟩)
  dsimp only [Pt.U, Pt.locs, Pt.cells, Pt.slots] at X44 l44 y44 z44 st44 hQ44
  replace X44 := own_stand X44 l44 y44 z44
  clear l44 y44 z44
  obtain ⟨rfl, N44, Z44, H44, V44⟩ := hQ44
  refine own_st (g1 := (mkF m 35 #[.val (.long q1), .second, .val (.long q2), .second, .val (.long q3), .second, .val (.long q4), .second, .val (.long q5), .second, .val (.ref b39), .unset, .unset, .unset, .unset, .unset, .unset, .unset, .unset, .unset, .unset, .unset] [])) (fun zt zk => st44.trans zk) ?_
  obtain ⟨f4, hf4⟩ : ∃ f : Nat → Int64, f = own_up q4 3 3 f3 := ⟨_, rfl⟩
  rw [← hf4] at V44
  have M4 := Fr.app M3 N44
  refine own_st (g1 := (mkF m 37 #[.val (.long q1), .second, .val (.long q2), .second, .val (.long q3), .second, .val (.long q4), .second, .val (.long q5), .second, .val (.ref b39), .unset, .unset, .unset, .unset, .unset, .unset, .unset, .unset, .unset, .unset, .unset] [(.ref b39)])) (fun zt zk => XS.aload X44.here hx rfl (hb hby at_35) rfl rfl zk) ?_
  refine own_st (g1 := (mkF m 39 #[.val (.long q1), .second, .val (.long q2), .second, .val (.long q3), .second, .val (.long q4), .second, .val (.long q5), .second, .val (.ref b39), .unset, .unset, .unset, .unset, .unset, .unset, .unset, .unset, .unset, .unset, .unset] [(.long q5), (.ref b39)])) (fun zt zk => XS.lload X44.here hx rfl (hb hby at_37) rfl zk) ?_
  obtain ⟨cq45, kq45, q45a, q45b, q45c⟩ := isOf hZ rfl H44.1
  obtain ⟨_, _, ⟨T45, L45, k45, n45⟩, -, X45, ⟨Lc45, hQ45, l45, y45, z45⟩, st45⟩ := X44.virtualBack hx (y := (⟨"com/example/libperturb/libperturb/solver/MinHeap", "push", "(J)V"⟩ : MethodName)) (z := (⟨"com/example/libperturb/libperturb/solver/MinHeap", "push", "(J)V"⟩ : MethodName)) hown (mvT hZ (hw _ (List.mem_of_getElem? (i := 12) rfl))) (mvT hZ (hw _ (List.mem_of_getElem? (i := 13) rfl))) (notFace_of_selects (args := #[]) (mvT hZ (hw _ (List.mem_of_getElem? (i := 15) rfl)))) (mvT hZ (hw _ (List.mem_of_getElem? (i := 15) rfl))) (mvT hZ (hw _ (List.mem_of_getElem? (i := 14) rfl))) (by decide) (backOf (W := 0) (rm3 l Z a0 hw [] b39 t f4 4 q5 T44.heap n0 (by decide) hot go gt Z44 H44 V44) hZ (hw _ (List.mem_of_getElem? (i := 16) rfl)) (hw _ (List.mem_of_getElem? (i := 2) rfl)) (by decide) (by decide)) q45a q45c (g := (mkF m 39 #[.val (.long q1), .second, .val (.long q2), .second, .val (.long q3), .second, .val (.long q4), .second, .val (.long q5), .second, .val (.ref b39), .unset, .unset, .unset, .unset, .unset, .unset, .unset, .unset, .unset, .unset, .unset] [(.long q5), (.ref b39)])) rfl (by rw [hml]; rfl) (Steps.refl _) (argsL := [(.long q5)]) (rest := []) (lenOf pd_1 rfl) rfl (by show 2 * 0 + _ ≤ _; exact Nat.le_of_eq rfl) (hb hby at_39) (fun _ _ => ⟨rfl, rfl, (by decide : 0 + 1 + 1 + 0 + 0 + 0 + 0 + 0 ≤ _), (by decide : 0 + 2 + 16 + 0 + 0 + 0 + 0 + 0 ≤ _)⟩)
  dsimp only [Pt.U, Pt.locs, Pt.cells, Pt.slots] at X45 l45 y45 z45 st45 hQ45
  replace X45 := own_stand X45 l45 y45 z45
  clear l45 y45 z45
  obtain ⟨rfl, N45, Z45, H45, V45⟩ := hQ45
  refine own_st (g1 := (mkF m 42 #[.val (.long q1), .second, .val (.long q2), .second, .val (.long q3), .second, .val (.long q4), .second, .val (.long q5), .second, .val (.ref b39), .unset, .unset, .unset, .unset, .unset, .unset, .unset, .unset, .unset, .unset, .unset] [])) (fun zt zk => st45.trans zk) ?_
  obtain ⟨f5, hf5⟩ : ∃ f : Nat → Int64, f = own_up q5 4 4 f4 := ⟨_, rfl⟩
  rw [← hf5] at V45
  have M5 := Fr.app M4 N45
  refine own_st (g1 := (mkF m 44 #[.val (.long q1), .second, .val (.long q2), .second, .val (.long q3), .second, .val (.long q4), .second, .val (.long q5), .second, .val (.ref b39), .unset, .unset, .unset, .unset, .unset, .unset, .unset, .unset, .unset, .unset, .unset] [(.ref b39)])) (fun zt zk => XS.aload X45.here hx rfl (hb hby at_42) rfl rfl zk) ?_
  obtain ⟨cq46, kq46, q46a, q46b, q46c⟩ := isOf hZ rfl H45.1
  obtain ⟨_, _, ⟨T46, L46, k46, n46⟩, -, X46, ⟨Lc46, hQ46, l46, y46, z46⟩, st46⟩ := X45.virtualBack hx (y := (⟨"com/example/libperturb/libperturb/solver/MinHeap", "pop", "()J"⟩ : MethodName)) (z := (⟨"com/example/libperturb/libperturb/solver/MinHeap", "pop", "()J"⟩ : MethodName)) hown (mvT hZ (hw _ (List.mem_of_getElem? (i := 19) rfl))) (mvT hZ (hw _ (List.mem_of_getElem? (i := 20) rfl))) (notFace_of_selects (args := #[]) (mvT hZ (hw _ (List.mem_of_getElem? (i := 22) rfl)))) (mvT hZ (hw _ (List.mem_of_getElem? (i := 22) rfl))) (mvT hZ (hw _ (List.mem_of_getElem? (i := 21) rfl))) (by decide) (backOf (W := 0) (rm4 l Z a0 hw [] b39 t f5 4 T45.heap n0 (by decide) hot go gt Z45 H45 V45) hZ (hw _ (List.mem_of_getElem? (i := 23) rfl)) (hw _ (List.mem_of_getElem? (i := 2) rfl)) (by decide) (by decide)) q46a q46c (g := (mkF m 44 #[.val (.long q1), .second, .val (.long q2), .second, .val (.long q3), .second, .val (.long q4), .second, .val (.long q5), .second, .val (.ref b39), .unset, .unset, .unset, .unset, .unset, .unset, .unset, .unset, .unset, .unset, .unset] [(.ref b39)])) rfl (by rw [hml]; rfl) (Steps.refl _) (argsL := []) (rest := []) (lenOf pd_2 rfl) rfl (by show 2 * 0 + _ ≤ _; exact Nat.le_of_eq rfl) (hb hby at_44) (fun _ _ => ⟨rfl, rfl, (by decide : 0 + 1 + 1 + 0 + 0 + 0 + 0 + 0 + 0 ≤ _), (by decide : 0 + 2 + 16 + 0 + 0 + 0 + 0 + 0 + 0 ≤ _)⟩)
  dsimp only [Pt.U, Pt.locs, Pt.cells, Pt.slots] at X46 l46 y46 z46 st46 hQ46
  replace X46 := own_stand X46 l46 y46 z46
  clear l46 y46 z46
  obtain ⟨rfl, N46, Z46, H46, V46⟩ := hQ46
  refine own_st (g1 := (mkF m 47 #[.val (.long q1), .second, .val (.long q2), .second, .val (.long q3), .second, .val (.long q4), .second, .val (.long q5), .second, .val (.ref b39), .unset, .unset, .unset, .unset, .unset, .unset, .unset, .unset, .unset, .unset, .unset] [(.long (f5 0))])) (fun zt zk => st46.trans zk) ?_
  obtain ⟨f6, hf6⟩ : ∃ f : Nat → Int64, f = own_down (f5 4) 4 4 0 1 f5 := ⟨_, rfl⟩
  rw [← hf6] at V46
  have M6 := Fr.app M5 N46
  refine own_st (g1 := (mkF m 49 #[.val (.long q1), .second, .val (.long q2), .second, .val (.long q3), .second, .val (.long q4), .second, .val (.long q5), .second, .val (.ref b39), .val (.long (f5 0)), .second, .unset, .unset, .unset, .unset, .unset, .unset, .unset, .unset, .unset] [])) (fun zt zk => XS.lstore X46.here hx rfl (hb hby at_47) rfl (l' := #[.val (.long q1), .second, .val (.long q2), .second, .val (.long q3), .second, .val (.long q4), .second, .val (.long q5), .second, .val (.ref b39), .val (.long (f5 0)), .second, .unset, .unset, .unset, .unset, .unset, .unset, .unset, .unset, .unset]) rfl zk) ?_
  refine own_st (g1 := (mkF m 51 #[.val (.long q1), .second, .val (.long q2), .second, .val (.long q3), .second, .val (.long q4), .second, .val (.long q5), .second, .val (.ref b39), .val (.long (f5 0)), .second, .unset, .unset, .unset, .unset, .unset, .unset, .unset, .unset, .unset] [(.ref b39)])) (fun zt zk => XS.aload X46.here hx rfl (hb hby at_49) rfl rfl zk) ?_
  obtain ⟨cq47, kq47, q47a, q47b, q47c⟩ := isOf hZ rfl H46.1
  obtain ⟨_, _, ⟨T47, L47, k47, n47⟩, -, X47, ⟨Lc47, hQ47, l47, y47, z47⟩, st47⟩ := X46.virtualBack hx (y := (⟨"com/example/libperturb/libperturb/solver/MinHeap", "pop", "()J"⟩ : MethodName)) (z := (⟨"com/example/libperturb/libperturb/solver/MinHeap", "pop", "()J"⟩ : MethodName)) hown (mvT hZ (hw _ (List.mem_of_getElem? (i := 19) rfl))) (mvT hZ (hw _ (List.mem_of_getElem? (i := 20) rfl))) (notFace_of_selects (args := #[]) (mvT hZ (hw _ (List.mem_of_getElem? (i := 22) rfl)))) (mvT hZ (hw _ (List.mem_of_getElem? (i := 22) rfl))) (mvT hZ (hw _ (List.mem_of_getElem? (i := 21) rfl))) (by decide) (backOf (W := 0) (rm4 l Z a0 hw [] b39 t f6 3 T46.heap n0 (by decide) hot go gt Z46 H46 V46) hZ (hw _ (List.mem_of_getElem? (i := 23) rfl)) (hw _ (List.mem_of_getElem? (i := 2) rfl)) (by decide) (by decide)) q47a q47c (g := (mkF m 51 #[.val (.long q1), .second, .val (.long q2), .second, .val (.long q3), .second, .val (.long q4), .second, .val (.long q5), .second, .val (.ref b39), .val (.long (f5 0)), .second, .unset, .unset, .unset, .unset, .unset, .unset, .unset, .unset, .unset] [(.ref b39)])) rfl (by rw [hml]; rfl) (Steps.refl _) (argsL := []) (rest := []) (lenOf pd_2 rfl) rfl (by show 2 * 0 + _ ≤ _; exact Nat.le_of_eq rfl) (hb hby at_51) (fun _ _ => ⟨rfl, rfl, (by decide : 0 + 1 + 1 + 0 + 0 + 0 + 0 + 0 + 0 + 0 ≤ _), (by decide : 0 + 2 + 16 + 0 + 0 + 0 + 0 + 0 + 0 + 0 ≤ _)⟩)
  dsimp only [Pt.U, Pt.locs, Pt.cells, Pt.slots] at X47 l47 y47 z47 st47 hQ47
  replace X47 := own_stand X47 l47 y47 z47
  clear l47 y47 z47
  obtain ⟨rfl, N47, Z47, H47, V47⟩ := hQ47
  refine own_st (g1 := (mkF m 54 #[.val (.long q1), .second, .val (.long q2), .second, .val (.long q3), .second, .val (.long q4), .second, .val (.long q5), .second, .val (.ref b39), .val (.long (f5 0)), .second, .unset, .unset, .unset, .unset, .unset, .unset, .unset, .unset, .unset] [(.long (f6 0))])) (fun zt zk => st47.trans zk) ?_
  obtain ⟨f7, hf7⟩ : ∃ f : Nat → Int64, f = own_down (f6 3) 3 3 0 1 f6 := ⟨_, rfl⟩
  rw [← hf7] at V47
  have M7 := Fr.app M6 N47
  refine own_st (g1 := (mkF m 56 #[.val (.long q1), .second, .val (.long q2), .second, .val (.long q3), .second, .val (.long q4), .second, .val (.long q5), .second, .val (.ref b39), .val (.long (f5 0)), .second, .val (.long (f6 0)), .second, .unset, .unset, .unset, .unset, .unset, .unset, .unset] [])) (fun zt zk => XS.lstore X47.here hx rfl (hb hby at_54) rfl (l' := #[.val (.long q1), .second, .val (.long q2), .second, .val (.long q3), .second, .val (.long q4), .second, .val (.long q5), .second, .val (.ref b39), .val (.long (f5 0)), .second, .val (.long (f6 0)), .second, .unset, .unset, .unset, .unset, .unset, .unset, .unset]) rfl zk) ?_
  refine own_st (g1 := (mkF m 58 #[.val (.long q1), .second, .val (.long q2), .second, .val (.long q3), .second, .val (.long q4), .second, .val (.long q5), .second, .val (.ref b39), .val (.long (f5 0)), .second, .val (.long (f6 0)), .second, .unset, .unset, .unset, .unset, .unset, .unset, .unset] [(.ref b39)])) (fun zt zk => XS.aload X47.here hx rfl (hb hby at_56) rfl rfl zk) ?_
  obtain ⟨cq48, kq48, q48a, q48b, q48c⟩ := isOf hZ rfl H47.1
  obtain ⟨_, _, ⟨T48, L48, k48, n48⟩, -, X48, ⟨Lc48, hQ48, l48, y48, z48⟩, st48⟩ := X47.virtualBack hx (y := (⟨"com/example/libperturb/libperturb/solver/MinHeap", "pop", "()J"⟩ : MethodName)) (z := (⟨"com/example/libperturb/libperturb/solver/MinHeap", "pop", "()J"⟩ : MethodName)) hown (mvT hZ (hw _ (List.mem_of_getElem? (i := 19) rfl))) (mvT hZ (hw _ (List.mem_of_getElem? (i := 20) rfl))) (notFace_of_selects (args := #[]) (mvT hZ (hw _ (List.mem_of_getElem? (i := 22) rfl)))) (mvT hZ (hw _ (List.mem_of_getElem? (i := 22) rfl))) (mvT hZ (hw _ (List.mem_of_getElem? (i := 21) rfl))) (by decide) (backOf (W := 0) (rm4 l Z a0 hw [] b39 t f7 2 T47.heap n0 (by decide) hot go gt Z47 H47 V47) hZ (hw _ (List.mem_of_getElem? (i := 23) rfl)) (hw _ (List.mem_of_getElem? (i := 2) rfl)) (by decide) (by decide)) q48a q48c (g := (mkF m 58 #[.val (.long q1), .second, .val (.long q2), .second, .val (.long q3), .second, .val (.long q4), .second, .val (.long q5), .second, .val (.ref b39), .val (.long (f5 0)), .second, .val (.long (f6 0)), .second, .unset, .unset, .unset, .unset, .unset, .unset, .unset] [(.ref b39)])) rfl (by rw [hml]; rfl) (Steps.refl _) (argsL := []) (rest := []) (lenOf pd_2 rfl) rfl (by show 2 * 0 + _ ≤ _; exact Nat.le_of_eq rfl) (hb hby at_58) (fun _ _ => ⟨rfl, rfl, (by decide : 0 + 1 + 1 + 0 + 0 + 0 + 0 + 0 + 0 + 0 + 0 ≤ _), (by decide : 0 + 2 + 16 + 0 + 0 + 0 + 0 + 0 + 0 + 0 + 0 ≤ _)⟩)
  dsimp only [Pt.U, Pt.locs, Pt.cells, Pt.slots] at X48 l48 y48 z48 st48 hQ48
  replace X48 := own_stand X48 l48 y48 z48
  clear l48 y48 z48
  obtain ⟨rfl, N48, Z48, H48, V48⟩ := hQ48
  refine own_st (g1 := (mkF m 61 #[.val (.long q1), .second, .val (.long q2), .second, .val (.long q3), .second, .val (.long q4), .second, .val (.long q5), .second, .val (.ref b39), .val (.long (f5 0)), .second, .val (.long (f6 0)), .second, .unset, .unset, .unset, .unset, .unset, .unset, .unset] [(.long (f7 0))])) (fun zt zk => st48.trans zk) ?_
  obtain ⟨f8, hf8⟩ : ∃ f : Nat → Int64, f = own_down (f7 2) 2 2 0 1 f7 := ⟨_, rfl⟩
  rw [← hf8] at V48
  have M8 := Fr.app M7 N48
  refine own_st (g1 := (mkF m 63 #[.val (.long q1), .second, .val (.long q2), .second, .val (.long q3), .second, .val (.long q4), .second, .val (.long q5), .second, .val (.ref b39), .val (.long (f5 0)), .second, .val (.long (f6 0)), .second, .val (.long (f7 0)), .second, .unset, .unset, .unset, .unset, .unset] [])) (fun zt zk => XS.lstore X48.here hx rfl (hb hby at_61) rfl (l' := #[.val (.long q1), .second, .val (.long q2), .second, .val (.long q3), .second, .val (.long q4), .second, .val (.long q5), .second, .val (.ref b39), .val (.long (f5 0)), .second, .val (.long (f6 0)), .second, .val (.long (f7 0)), .second, .unset, .unset, .unset, .unset, .unset]) rfl zk) ?_
  refine own_st (g1 := (mkF m 65 #[.val (.long q1), .second, .val (.long q2), .second, .val (.long q3), .second, .val (.long q4), .second, .val (.long q5), .second, .val (.ref b39), .val (.long (f5 0)), .second, .val (.long (f6 0)), .second, .val (.long (f7 0)), .second, .unset, .unset, .unset, .unset, .unset] [(.ref b39)])) (fun zt zk => XS.aload X48.here hx rfl (hb hby at_63) rfl rfl zk) ?_
  obtain ⟨cq49, kq49, q49a, q49b, q49c⟩ := isOf hZ rfl H48.1
  obtain ⟨_, _, ⟨T49, L49, k49, n49⟩, -, X49, ⟨Lc49, hQ49, l49, y49, z49⟩, st49⟩ := X48.virtualBack hx (y := (⟨"com/example/libperturb/libperturb/solver/MinHeap", "pop", "()J"⟩ : MethodName)) (z := (⟨"com/example/libperturb/libperturb/solver/MinHeap", "pop", "()J"⟩ : MethodName)) hown (mvT hZ (hw _ (List.mem_of_getElem? (i := 19) rfl))) (mvT hZ (hw _ (List.mem_of_getElem? (i := 20) rfl))) (notFace_of_selects (args := #[]) (mvT hZ (hw _ (List.mem_of_getElem? (i := 22) rfl)))) (mvT hZ (hw _ (List.mem_of_getElem? (i := 22) rfl))) (mvT hZ (hw _ (List.mem_of_getElem? (i := 21) rfl))) (by decide) (backOf (W := 0) (rm4 l Z a0 hw [] b39 t f8 1 T48.heap n0 (by decide) hot go gt Z48 H48 V48) hZ (hw _ (List.mem_of_getElem? (i := 23) rfl)) (hw _ (List.mem_of_getElem? (i := 2) rfl)) (by decide) (by decide)) q49a q49c (g := (mkF m 65 #[.val (.long q1), .second, .val (.long q2), .second, .val (.long q3), .second, .val (.long q4), .second, .val (.long q5), .second, .val (.ref b39), .val (.long (f5 0)), .second, .val (.long (f6 0)), .second, .val (.long (f7 0)), .second, .unset, .unset, .unset, .unset, .unset] [(.ref b39)])) rfl (by rw [hml]; rfl) (Steps.refl _) (argsL := []) (rest := []) (lenOf pd_2 rfl) rfl (by show 2 * 0 + _ ≤ _; exact Nat.le_of_eq rfl) (hb hby at_65) (fun _ _ => ⟨rfl, rfl, (by decide : 0 + 1 + 1 + 0 + 0 + 0 + 0 + 0 + 0 + 0 + 0 + 0 ≤ _), (by decide : 0 + 2 + 16 + 0 + 0 + 0 + 0 + 0 + 0 + 0 + 0 + 0 ≤ _)⟩)
  dsimp only [Pt.U, Pt.locs, Pt.cells, Pt.slots] at X49 l49 y49 z49 st49 hQ49
  replace X49 := own_stand X49 l49 y49 z49
  clear l49 y49 z49
  obtain ⟨rfl, N49, Z49, H49, V49⟩ := hQ49
  refine own_st (g1 := (mkF m 68 #[.val (.long q1), .second, .val (.long q2), .second, .val (.long q3), .second, .val (.long q4), .second, .val (.long q5), .second, .val (.ref b39), .val (.long (f5 0)), .second, .val (.long (f6 0)), .second, .val (.long (f7 0)), .second, .unset, .unset, .unset, .unset, .unset] [(.long (f8 0))])) (fun zt zk => st49.trans zk) ?_
  obtain ⟨f9, hf9⟩ : ∃ f : Nat → Int64, f = own_down (f8 1) 1 1 0 1 f8 := ⟨_, rfl⟩
  rw [← hf9] at V49
  have M9 := Fr.app M8 N49
  refine own_st (g1 := (mkF m 70 #[.val (.long q1), .second, .val (.long q2), .second, .val (.long q3), .second, .val (.long q4), .second, .val (.long q5), .second, .val (.ref b39), .val (.long (f5 0)), .second, .val (.long (f6 0)), .second, .val (.long (f7 0)), .second, .val (.long (f8 0)), .second, .unset, .unset, .unset] [])) (fun zt zk => XS.lstore X49.here hx rfl (hb hby at_68) rfl (l' := #[.val (.long q1), .second, .val (.long q2), .second, .val (.long q3), .second, .val (.long q4), .second, .val (.long q5), .second, .val (.ref b39), .val (.long (f5 0)), .second, .val (.long (f6 0)), .second, .val (.long (f7 0)), .second, .val (.long (f8 0)), .second, .unset, .unset, .unset]) rfl zk) ?_
  refine own_st (g1 := (mkF m 72 #[.val (.long q1), .second, .val (.long q2), .second, .val (.long q3), .second, .val (.long q4), .second, .val (.long q5), .second, .val (.ref b39), .val (.long (f5 0)), .second, .val (.long (f6 0)), .second, .val (.long (f7 0)), .second, .val (.long (f8 0)), .second, .unset, .unset, .unset] [(.ref b39)])) (fun zt zk => XS.aload X49.here hx rfl (hb hby at_70) rfl rfl zk) ?_
  obtain ⟨cq50, kq50, q50a, q50b, q50c⟩ := isOf hZ rfl H49.1
  obtain ⟨_, _, ⟨T50, L50, k50, n50⟩, -, X50, ⟨Lc50, hQ50, l50, y50, z50⟩, st50⟩ := X49.virtualBack hx (y := (⟨"com/example/libperturb/libperturb/solver/MinHeap", "pop", "()J"⟩ : MethodName)) (z := (⟨"com/example/libperturb/libperturb/solver/MinHeap", "pop", "()J"⟩ : MethodName)) hown (mvT hZ (hw _ (List.mem_of_getElem? (i := 19) rfl))) (mvT hZ (hw _ (List.mem_of_getElem? (i := 20) rfl))) (notFace_of_selects (args := #[]) (mvT hZ (hw _ (List.mem_of_getElem? (i := 22) rfl)))) (mvT hZ (hw _ (List.mem_of_getElem? (i := 22) rfl))) (mvT hZ (hw _ (List.mem_of_getElem? (i := 21) rfl))) (by decide) (backOf (W := 0) (rm4 l Z a0 hw [] b39 t f9 0 T49.heap n0 (by decide) hot go gt Z49 H49 V49) hZ (hw _ (List.mem_of_getElem? (i := 23) rfl)) (hw _ (List.mem_of_getElem? (i := 2) rfl)) (by decide) (by decide)) q50a q50c (g := (mkF m 72 #[.val (.long q1), .second, .val (.long q2), .second, .val (.long q3), .second, .val (.long q4), .second, .val (.long q5), .second, .val (.ref b39), .val (.long (f5 0)), .second, .val (.long (f6 0)), .second, .val (.long (f7 0)), .second, .val (.long (f8 0)), .second, .unset, .unset, .unset] [(.ref b39)])) rfl (by rw [hml]; rfl) (Steps.refl _) (argsL := []) (rest := []) (lenOf pd_2 rfl) rfl (by show 2 * 0 + _ ≤ _; exact Nat.le_of_eq rfl) (hb hby at_72) (fun _ _ => ⟨rfl, rfl, (by decide : 0 + 1 + 1 + 0 + 0 + 0 + 0 + 0 + 0 + 0 + 0 + 0 + 0 ≤ _), (by decide : 0 + 2 + 16 + 0 + 0 + 0 + 0 + 0 + 0 + 0 + 0 + 0 + 0 ≤ _)⟩)
  dsimp only [Pt.U, Pt.locs, Pt.cells, Pt.slots] at X50 l50 y50 z50 st50 hQ50
  replace X50 := own_stand X50 l50 y50 z50
  clear l50 y50 z50
  obtain ⟨rfl, N50, Z50, H50, V50⟩ := hQ50
  refine own_st (g1 := (mkF m 75 #[.val (.long q1), .second, .val (.long q2), .second, .val (.long q3), .second, .val (.long q4), .second, .val (.long q5), .second, .val (.ref b39), .val (.long (f5 0)), .second, .val (.long (f6 0)), .second, .val (.long (f7 0)), .second, .val (.long (f8 0)), .second, .unset, .unset, .unset] [(.long (f9 0))])) (fun zt zk => st50.trans zk) ?_
  obtain ⟨f10, hf10⟩ : ∃ f : Nat → Int64, f = own_down (f9 0) 0 0 0 1 f9 := ⟨_, rfl⟩
  rw [← hf10] at V50
  have M10 := Fr.app M9 N50
  refine own_st (g1 := (mkF m 77 #[.val (.long q1), .second, .val (.long q2), .second, .val (.long q3), .second, .val (.long q4), .second, .val (.long q5), .second, .val (.ref b39), .val (.long (f5 0)), .second, .val (.long (f6 0)), .second, .val (.long (f7 0)), .second, .val (.long (f8 0)), .second, .val (.long (f9 0)), .second, .unset] [])) (fun zt zk => XS.lstore X50.here hx rfl (hb hby at_75) rfl (l' := #[.val (.long q1), .second, .val (.long q2), .second, .val (.long q3), .second, .val (.long q4), .second, .val (.long q5), .second, .val (.ref b39), .val (.long (f5 0)), .second, .val (.long (f6 0)), .second, .val (.long (f7 0)), .second, .val (.long (f8 0)), .second, .val (.long (f9 0)), .second, .unset]) rfl zk) ?_
  refine own_st (g1 := (mkF m 78 #[.val (.long q1), .second, .val (.long q2), .second, .val (.long q3), .second, .val (.long q4), .second, .val (.long q5), .second, .val (.ref b39), .val (.long (f5 0)), .second, .val (.long (f6 0)), .second, .val (.long (f7 0)), .second, .val (.long (f8 0)), .second, .val (.long (f9 0)), .second, .unset] [(.int (5 : Int32))])) (fun zt zk => XS.iconst X50.here hx rfl (hb hby at_77) zk) ?_
  obtain ⟨T51, h51, k51, X51, e51, E51, A51, st51⟩ := newP X50 hx hZ (hw _ (List.mem_of_getElem? (i := 9) rfl)) rfl (g := (mkF m 78 #[.val (.long q1), .second, .val (.long q2), .second, .val (.long q3), .second, .val (.long q4), .second, .val (.long q5), .second, .val (.ref b39), .val (.long (f5 0)), .second, .val (.long (f6 0)), .second, .val (.long (f7 0)), .second, .val (.long (f8 0)), .second, .val (.long (f9 0)), .second, .unset] [(.int (5 : Int32))])) rfl (hb hby at_78) rfl (by decide) (cap := 5) (by decide) (by decide) (by decide) (by decide)
  obtain ⟨b51, g51⟩ : ∃ z, z = T50.heap.size := ⟨_, rfl⟩
  rw [← g51] at A51 st51
  refine own_st (g1 := (mkF m 80 #[.val (.long q1), .second, .val (.long q2), .second, .val (.long q3), .second, .val (.long q4), .second, .val (.long q5), .second, .val (.ref b39), .val (.long (f5 0)), .second, .val (.long (f6 0)), .second, .val (.long (f7 0)), .second, .val (.long (f8 0)), .second, .val (.long (f9 0)), .second, .unset] [(.ref b51)])) (st51) ?_
  have gs : n0 ≤ b51 := by omega
  have U0 : VA Z h51 b51 .long 5 (fun _ => .long (0 : Int64)) := VA.new A51 rfl
  refine own_st (g1 := (mkF m 81 #[.val (.long q1), .second, .val (.long q2), .second, .val (.long q3), .second, .val (.long q4), .second, .val (.long q5), .second, .val (.ref b39), .val (.long (f5 0)), .second, .val (.long (f6 0)), .second, .val (.long (f7 0)), .second, .val (.long (f8 0)), .second, .val (.long (f9 0)), .second, .unset] [(.ref b51), (.ref b51)])) (fun zt zk => XS.dup X51.here hx rfl (hb hby at_80) rfl rfl zk) ?_
  refine own_st (g1 := (mkF m 82 #[.val (.long q1), .second, .val (.long q2), .second, .val (.long q3), .second, .val (.long q4), .second, .val (.long q5), .second, .val (.ref b39), .val (.long (f5 0)), .second, .val (.long (f6 0)), .second, .val (.long (f7 0)), .second, .val (.long (f8 0)), .second, .val (.long (f9 0)), .second, .unset] [(.int (0 : Int32)), (.ref b51), (.ref b51)])) (fun zt zk => XS.iconst X51.here hx rfl (hb hby at_81) zk) ?_
  refine own_st (g1 := (mkF m 83 #[.val (.long q1), .second, .val (.long q2), .second, .val (.long q3), .second, .val (.long q4), .second, .val (.long q5), .second, .val (.ref b39), .val (.long (f5 0)), .second, .val (.long (f6 0)), .second, .val (.long (f7 0)), .second, .val (.long (f8 0)), .second, .val (.long (f9 0)), .second, .unset] [(.long q1), (.int (0 : Int32)), (.ref b51), (.ref b51)])) (fun zt zk => XS.lloadN X51.here hx rfl (hb hby at_82) rfl zk) ?_
  obtain ⟨T52, h52, X52, e52, W52, st52⟩ := own_jst X51 hx hZ e51 U0 (j := 0) rfl (by decide) (by decide) (g := (mkF m 83 #[.val (.long q1), .second, .val (.long q2), .second, .val (.long q3), .second, .val (.long q4), .second, .val (.long q5), .second, .val (.ref b39), .val (.long (f5 0)), .second, .val (.long (f6 0)), .second, .val (.long (f7 0)), .second, .val (.long (f8 0)), .second, .val (.long (f9 0)), .second, .unset] [(.long q1), (.int (0 : Int32)), (.ref b51), (.ref b51)])) rfl rfl (hb hby at_83)
  refine own_st (g1 := (mkF m 84 #[.val (.long q1), .second, .val (.long q2), .second, .val (.long q3), .second, .val (.long q4), .second, .val (.long q5), .second, .val (.ref b39), .val (.long (f5 0)), .second, .val (.long (f6 0)), .second, .val (.long (f7 0)), .second, .val (.long (f8 0)), .second, .val (.long (f9 0)), .second, .unset] [(.ref b51)])) (st52) ?_
  have U1 := U0.setJ W52
  have R1 := Fr.snoc X52 M10 gs
  refine own_st (g1 := (mkF m 85 #[.val (.long q1), .second, .val (.long q2), .second, .val (.long q3), .second, .val (.long q4), .second, .val (.long q5), .second, .val (.ref b39), .val (.long (f5 0)), .second, .val (.long (f6 0)), .second, .val (.long (f7 0)), .second, .val (.long (f8 0)), .second, .val (.long (f9 0)), .second, .unset] [(.ref b51), (.ref b51)])) (fun zt zk => XS.dup X52.here hx rfl (hb hby at_84) rfl rfl zk) ?_
  refine own_st (g1 := (mkF m 86 #[.val (.long q1), .second, .val (.long q2), .second, .val (.long q3), .second, .val (.long q4), .second, .val (.long q5), .second, .val (.ref b39), .val (.long (f5 0)), .second, .val (.long (f6 0)), .second, .val (.long (f7 0)), .second, .val (.long (f8 0)), .second, .val (.long (f9 0)), .second, .unset] [(.int (1 : Int32)), (.ref b51), (.ref b51)])) (fun zt zk => XS.iconst X52.here hx rfl (hb hby at_85) zk) ?_
  refine own_st (g1 := (mkF m 87 #[.val (.long q1), .second, .val (.long q2), .second, .val (.long q3), .second, .val (.long q4), .second, .val (.long q5), .second, .val (.ref b39), .val (.long (f5 0)), .second, .val (.long (f6 0)), .second, .val (.long (f7 0)), .second, .val (.long (f8 0)), .second, .val (.long (f9 0)), .second, .unset] [(.long q2), (.int (1 : Int32)), (.ref b51), (.ref b51)])) (fun zt zk => XS.lloadN X52.here hx rfl (hb hby at_86) rfl zk) ?_
  obtain ⟨T53, h53, X53, e53, W53, st53⟩ := own_jst X52 hx hZ e52 U1 (j := 1) rfl (by decide) (by decide) (g := (mkF m 87 #[.val (.long q1), .second, .val (.long q2), .second, .val (.long q3), .second, .val (.long q4), .second, .val (.long q5), .second, .val (.ref b39), .val (.long (f5 0)), .second, .val (.long (f6 0)), .second, .val (.long (f7 0)), .second, .val (.long (f8 0)), .second, .val (.long (f9 0)), .second, .unset] [(.long q2), (.int (1 : Int32)), (.ref b51), (.ref b51)])) rfl rfl (hb hby at_87)
  refine own_st (g1 := (mkF m 88 #[.val (.long q1), .second, .val (.long q2), .second, .val (.long q3), .second, .val (.long q4), .second, .val (.long q5), .second, .val (.ref b39), .val (.long (f5 0)), .second, .val (.long (f6 0)), .second, .val (.long (f7 0)), .second, .val (.long (f8 0)), .second, .val (.long (f9 0)), .second, .unset] [(.ref b51)])) (st53) ?_
  have U2 := U1.setJ W53
  have R2 := Fr.snoc X53 R1 gs
  refine own_st (g1 := (mkF m 89 #[.val (.long q1), .second, .val (.long q2), .second, .val (.long q3), .second, .val (.long q4), .second, .val (.long q5), .second, .val (.ref b39), .val (.long (f5 0)), .second, .val (.long (f6 0)), .second, .val (.long (f7 0)), .second, .val (.long (f8 0)), .second, .val (.long (f9 0)), .second, .unset] [(.ref b51), (.ref b51)])) (fun zt zk => XS.dup X53.here hx rfl (hb hby at_88) rfl rfl zk) ?_
  refine own_st (g1 := (mkF m 90 #[.val (.long q1), .second, .val (.long q2), .second, .val (.long q3), .second, .val (.long q4), .second, .val (.long q5), .second, .val (.ref b39), .val (.long (f5 0)), .second, .val (.long (f6 0)), .second, .val (.long (f7 0)), .second, .val (.long (f8 0)), .second, .val (.long (f9 0)), .second, .unset] [(.int (2 : Int32)), (.ref b51), (.ref b51)])) (fun zt zk => XS.iconst X53.here hx rfl (hb hby at_89) zk) ?_
  refine own_st (g1 := (mkF m 92 #[.val (.long q1), .second, .val (.long q2), .second, .val (.long q3), .second, .val (.long q4), .second, .val (.long q5), .second, .val (.ref b39), .val (.long (f5 0)), .second, .val (.long (f6 0)), .second, .val (.long (f7 0)), .second, .val (.long (f8 0)), .second, .val (.long (f9 0)), .second, .unset] [(.long q3), (.int (2 : Int32)), (.ref b51), (.ref b51)])) (fun zt zk => XS.lload X53.here hx rfl (hb hby at_90) rfl zk) ?_
  obtain ⟨T54, h54, X54, e54, W54, st54⟩ := own_jst X53 hx hZ e53 U2 (j := 2) rfl (by decide) (by decide) (g := (mkF m 92 #[.val (.long q1), .second, .val (.long q2), .second, .val (.long q3), .second, .val (.long q4), .second, .val (.long q5), .second, .val (.ref b39), .val (.long (f5 0)), .second, .val (.long (f6 0)), .second, .val (.long (f7 0)), .second, .val (.long (f8 0)), .second, .val (.long (f9 0)), .second, .unset] [(.long q3), (.int (2 : Int32)), (.ref b51), (.ref b51)])) rfl rfl (hb hby at_92)
  refine own_st (g1 := (mkF m 93 #[.val (.long q1), .second, .val (.long q2), .second, .val (.long q3), .second, .val (.long q4), .second, .val (.long q5), .second, .val (.ref b39), .val (.long (f5 0)), .second, .val (.long (f6 0)), .second, .val (.long (f7 0)), .second, .val (.long (f8 0)), .second, .val (.long (f9 0)), .second, .unset] [(.ref b51)])) (st54) ?_
  have U3 := U2.setJ W54
  have R3 := Fr.snoc X54 R2 gs
  refine own_st (g1 := (mkF m 94 #[.val (.long q1), .second, .val (.long q2), .second, .val (.long q3), .second, .val (.long q4), .second, .val (.long q5), .second, .val (.ref b39), .val (.long (f5 0)), .second, .val (.long (f6 0)), .second, .val (.long (f7 0)), .second, .val (.long (f8 0)), .second, .val (.long (f9 0)), .second, .unset] [(.ref b51), (.ref b51)])) (fun zt zk => XS.dup X54.here hx rfl (hb hby at_93) rfl rfl zk) ?_
  refine own_st (g1 := (mkF m 95 #[.val (.long q1), .second, .val (.long q2), .second, .val (.long q3), .second, .val (.long q4), .second, .val (.long q5), .second, .val (.ref b39), .val (.long (f5 0)), .second, .val (.long (f6 0)), .second, .val (.long (f7 0)), .second, .val (.long (f8 0)), .second, .val (.long (f9 0)), .second, .unset] [(.int (3 : Int32)), (.ref b51), (.ref b51)])) (fun zt zk => XS.iconst X54.here hx rfl (hb hby at_94) zk) ?_
  refine own_st (g1 := (mkF m 97 #[.val (.long q1), .second, .val (.long q2), .second, .val (.long q3), .second, .val (.long q4), .second, .val (.long q5), .second, .val (.ref b39), .val (.long (f5 0)), .second, .val (.long (f6 0)), .second, .val (.long (f7 0)), .second, .val (.long (f8 0)), .second, .val (.long (f9 0)), .second, .unset] [(.long q4), (.int (3 : Int32)), (.ref b51), (.ref b51)])) (fun zt zk => XS.lload X54.here hx rfl (hb hby at_95) rfl zk) ?_
  obtain ⟨T55, h55, X55, e55, W55, st55⟩ := own_jst X54 hx hZ e54 U3 (j := 3) rfl (by decide) (by decide) (g := (mkF m 97 #[.val (.long q1), .second, .val (.long q2), .second, .val (.long q3), .second, .val (.long q4), .second, .val (.long q5), .second, .val (.ref b39), .val (.long (f5 0)), .second, .val (.long (f6 0)), .second, .val (.long (f7 0)), .second, .val (.long (f8 0)), .second, .val (.long (f9 0)), .second, .unset] [(.long q4), (.int (3 : Int32)), (.ref b51), (.ref b51)])) rfl rfl (hb hby at_97)
  refine own_st (g1 := (mkF m 98 #[.val (.long q1), .second, .val (.long q2), .second, .val (.long q3), .second, .val (.long q4), .second, .val (.long q5), .second, .val (.ref b39), .val (.long (f5 0)), .second, .val (.long (f6 0)), .second, .val (.long (f7 0)), .second, .val (.long (f8 0)), .second, .val (.long (f9 0)), .second, .unset] [(.ref b51)])) (st55) ?_
  have U4 := U3.setJ W55
  have R4 := Fr.snoc X55 R3 gs
  refine own_st (g1 := (mkF m 99 #[.val (.long q1), .second, .val (.long q2), .second, .val (.long q3), .second, .val (.long q4), .second, .val (.long q5), .second, .val (.ref b39), .val (.long (f5 0)), .second, .val (.long (f6 0)), .second, .val (.long (f7 0)), .second, .val (.long (f8 0)), .second, .val (.long (f9 0)), .second, .unset] [(.ref b51), (.ref b51)])) (fun zt zk => XS.dup X55.here hx rfl (hb hby at_98) rfl rfl zk) ?_
  refine own_st (g1 := (mkF m 100 #[.val (.long q1), .second, .val (.long q2), .second, .val (.long q3), .second, .val (.long q4), .second, .val (.long q5), .second, .val (.ref b39), .val (.long (f5 0)), .second, .val (.long (f6 0)), .second, .val (.long (f7 0)), .second, .val (.long (f8 0)), .second, .val (.long (f9 0)), .second, .unset] [(.int (4 : Int32)), (.ref b51), (.ref b51)])) (fun zt zk => XS.iconst X55.here hx rfl (hb hby at_99) zk) ?_
  refine own_st (g1 := (mkF m 102 #[.val (.long q1), .second, .val (.long q2), .second, .val (.long q3), .second, .val (.long q4), .second, .val (.long q5), .second, .val (.ref b39), .val (.long (f5 0)), .second, .val (.long (f6 0)), .second, .val (.long (f7 0)), .second, .val (.long (f8 0)), .second, .val (.long (f9 0)), .second, .unset] [(.long q5), (.int (4 : Int32)), (.ref b51), (.ref b51)])) (fun zt zk => XS.lload X55.here hx rfl (hb hby at_100) rfl zk) ?_
  obtain ⟨T56, h56, X56, e56, W56, st56⟩ := own_jst X55 hx hZ e55 U4 (j := 4) rfl (by decide) (by decide) (g := (mkF m 102 #[.val (.long q1), .second, .val (.long q2), .second, .val (.long q3), .second, .val (.long q4), .second, .val (.long q5), .second, .val (.ref b39), .val (.long (f5 0)), .second, .val (.long (f6 0)), .second, .val (.long (f7 0)), .second, .val (.long (f8 0)), .second, .val (.long (f9 0)), .second, .unset] [(.long q5), (.int (4 : Int32)), (.ref b51), (.ref b51)])) rfl rfl (hb hby at_102)
  refine own_st (g1 := (mkF m 103 #[.val (.long q1), .second, .val (.long q2), .second, .val (.long q3), .second, .val (.long q4), .second, .val (.long q5), .second, .val (.ref b39), .val (.long (f5 0)), .second, .val (.long (f6 0)), .second, .val (.long (f7 0)), .second, .val (.long (f8 0)), .second, .val (.long (f9 0)), .second, .unset] [(.ref b51)])) (st56) ?_
  have U5 := U4.setJ W56
  have R5 := Fr.snoc X56 R4 gs
  obtain ⟨s0, hs0⟩ : ∃ f : Nat → Int64, f = (upd (upd (upd (upd (upd (fun _ => (0 : Int64)) 0 q1) 1 q2) 2 q3) 3 q4) 4 q5) := ⟨_, rfl⟩
  have V5 : VA Z h56 b51 .long 5 (fun k => .long (s0 k)) := by rw [hs0]; exact U5
  refine own_st (g1 := (mkF m 105 #[.val (.long q1), .second, .val (.long q2), .second, .val (.long q3), .second, .val (.long q4), .second, .val (.long q5), .second, .val (.ref b39), .val (.long (f5 0)), .second, .val (.long (f6 0)), .second, .val (.long (f7 0)), .second, .val (.long (f8 0)), .second, .val (.long (f9 0)), .second, .val (.ref b51)] [])) (fun zt zk => XS.astore X56.here hx rfl (hb hby at_103) rfl rfl (l' := #[.val (.long q1), .second, .val (.long q2), .second, .val (.long q3), .second, .val (.long q4), .second, .val (.long q5), .second, .val (.ref b39), .val (.long (f5 0)), .second, .val (.long (f6 0)), .second, .val (.long (f7 0)), .second, .val (.long (f8 0)), .second, .val (.long (f9 0)), .second, .val (.ref b51)]) rfl zk) ?_
  refine own_st (g1 := (mkF m 107 #[.val (.long q1), .second, .val (.long q2), .second, .val (.long q3), .second, .val (.long q4), .second, .val (.long q5), .second, .val (.ref b39), .val (.long (f5 0)), .second, .val (.long (f6 0)), .second, .val (.long (f7 0)), .second, .val (.long (f8 0)), .second, .val (.long (f9 0)), .second, .val (.ref b51)] [(.ref b51)])) (fun zt zk => XS.aload X56.here hx rfl (hb hby at_105) rfl rfl zk) ?_
  refine own_st (g1 := (mkF m 108 #[.val (.long q1), .second, .val (.long q2), .second, .val (.long q3), .second, .val (.long q4), .second, .val (.long q5), .second, .val (.ref b39), .val (.long (f5 0)), .second, .val (.long (f6 0)), .second, .val (.long (f7 0)), .second, .val (.long (f8 0)), .second, .val (.long (f9 0)), .second, .val (.ref b51)] [(.int (0 : Int32)), (.ref b51)])) (fun zt zk => XS.iconst X56.here hx rfl (hb hby at_107) zk) ?_
  refine own_st (g1 := (mkF m 109 #[.val (.long q1), .second, .val (.long q2), .second, .val (.long q3), .second, .val (.long q4), .second, .val (.long q5), .second, .val (.ref b39), .val (.long (f5 0)), .second, .val (.long (f6 0)), .second, .val (.long (f7 0)), .second, .val (.long (f8 0)), .second, .val (.long (f9 0)), .second, .val (.ref b51)] [(.int (3 : Int32)), (.int (0 : Int32)), (.ref b51)])) (fun zt zk => XS.iconst X56.here hx rfl (hb hby at_108) zk) ?_
  obtain ⟨_, _, ⟨T57, L57, k57, n57⟩, -, X57, ⟨Lc57, hQ57, l57, y57, z57⟩, st57⟩ := Jvm.LawKit.callS X56 hx (y := (⟨"com/example/libperturb/libperturb/solver/MinHeapPopPinLaw", "cs", "([JII)V"⟩ : MethodName)) hown (mvT hZ (hw _ (List.mem_of_getElem? (i := 24) rfl))) (mvT hZ (hw _ (List.mem_of_getElem? (i := 25) rfl))) (mvT hZ (hw _ (List.mem_of_getElem? (i := 26) rfl))) (mvT hZ (hw _ (List.mem_of_getElem? (i := 27) rfl))) (by decide) (backOf (W := 0) (rm5 l Z a0 hw [] b51 s0 0 3 h56 n0 (by decide) (by decide) gs V5) hZ (hw _ (List.mem_of_getElem? (i := 27) rfl)) (hw _ (List.mem_of_getElem? (i := 26) rfl)) (by decide) (by decide)) (g := (mkF m 109 #[.val (.long q1), .second, .val (.long q2), .second, .val (.long q3), .second, .val (.long q4), .second, .val (.long q5), .second, .val (.ref b39), .val (.long (f5 0)), .second, .val (.long (f6 0)), .second, .val (.long (f7 0)), .second, .val (.long (f8 0)), .second, .val (.long (f9 0)), .second, .val (.ref b51)] [(.int (3 : Int32)), (.int (0 : Int32)), (.ref b51)])) rfl (by rw [hml]; rfl) (argsL := [(.ref b51), (.int (0 : Int32)), (.int (3 : Int32))]) (rest := []) (lenOf pd_3 rfl) rfl (by show 2 * 0 + _ ≤ _; exact Nat.le_of_eq rfl) (hb hby at_109) (fun _ _ => ⟨rfl, e56, (by decide : 0 + 1 + 1 + 0 + 0 + 0 + 0 + 0 + 0 + 0 + 0 + 0 + 0 + 1 + 0 ≤ _), (by decide : 0 + 2 + 16 + 0 + 0 + 0 + 0 + 0 + 0 + 0 + 0 + 0 + 0 + 5 + 0 ≤ _)⟩)
  dsimp only [Pt.U, Pt.locs, Pt.cells, Pt.slots] at X57 l57 y57 z57 st57 hQ57
  replace X57 := own_stand X57 l57 y57 z57
  clear l57 y57 z57
  obtain ⟨rfl, N57, V57⟩ := hQ57
  refine own_st (g1 := (mkF m 112 #[.val (.long q1), .second, .val (.long q2), .second, .val (.long q3), .second, .val (.long q4), .second, .val (.long q5), .second, .val (.ref b39), .val (.long (f5 0)), .second, .val (.long (f6 0)), .second, .val (.long (f7 0)), .second, .val (.long (f8 0)), .second, .val (.long (f9 0)), .second, .val (.ref b51)] [])) (st57) ?_
  obtain ⟨s1, hs1⟩ : ∃ f : Nat → Int64, f = own_cs s0 0 3 := ⟨_, rfl⟩
  rw [← hs1] at V57
  have R6 := Fr.app R5 N57
  refine own_st (g1 := (mkF m 114 #[.val (.long q1), .second, .val (.long q2), .second, .val (.long q3), .second, .val (.long q4), .second, .val (.long q5), .second, .val (.ref b39), .val (.long (f5 0)), .second, .val (.long (f6 0)), .second, .val (.long (f7 0)), .second, .val (.long (f8 0)), .second, .val (.long (f9 0)), .second, .val (.ref b51)] [(.ref b51)])) (fun zt zk => XS.aload X57.here hx rfl (hb hby at_112) rfl rfl zk) ?_
  refine own_st (g1 := (mkF m 115 #[.val (.long q1), .second, .val (.long q2), .second, .val (.long q3), .second, .val (.long q4), .second, .val (.long q5), .second, .val (.ref b39), .val (.long (f5 0)), .second, .val (.long (f6 0)), .second, .val (.long (f7 0)), .second, .val (.long (f8 0)), .second, .val (.long (f9 0)), .second, .val (.ref b51)] [(.int (1 : Int32)), (.ref b51)])) (fun zt zk => XS.iconst X57.here hx rfl (hb hby at_114) zk) ?_
  refine own_st (g1 := (mkF m 116 #[.val (.long q1), .second, .val (.long q2), .second, .val (.long q3), .second, .val (.long q4), .second, .val (.long q5), .second, .val (.ref b39), .val (.long (f5 0)), .second, .val (.long (f6 0)), .second, .val (.long (f7 0)), .second, .val (.long (f8 0)), .second, .val (.long (f9 0)), .second, .val (.ref b51)] [(.int (4 : Int32)), (.int (1 : Int32)), (.ref b51)])) (fun zt zk => XS.iconst X57.here hx rfl (hb hby at_115) zk) ?_
  obtain ⟨_, _, ⟨T58, L58, k58, n58⟩, -, X58, ⟨Lc58, hQ58, l58, y58, z58⟩, st58⟩ := Jvm.LawKit.callS X57 hx (y := (⟨"com/example/libperturb/libperturb/solver/MinHeapPopPinLaw", "cs", "([JII)V"⟩ : MethodName)) hown (mvT hZ (hw _ (List.mem_of_getElem? (i := 24) rfl))) (mvT hZ (hw _ (List.mem_of_getElem? (i := 25) rfl))) (mvT hZ (hw _ (List.mem_of_getElem? (i := 26) rfl))) (mvT hZ (hw _ (List.mem_of_getElem? (i := 27) rfl))) (by decide) (backOf (W := 0) (rm5 l Z a0 hw [] b51 s1 1 4 T57.heap n0 (by decide) (by decide) gs V57) hZ (hw _ (List.mem_of_getElem? (i := 27) rfl)) (hw _ (List.mem_of_getElem? (i := 26) rfl)) (by decide) (by decide)) (g := (mkF m 116 #[.val (.long q1), .second, .val (.long q2), .second, .val (.long q3), .second, .val (.long q4), .second, .val (.long q5), .second, .val (.ref b39), .val (.long (f5 0)), .second, .val (.long (f6 0)), .second, .val (.long (f7 0)), .second, .val (.long (f8 0)), .second, .val (.long (f9 0)), .second, .val (.ref b51)] [(.int (4 : Int32)), (.int (1 : Int32)), (.ref b51)])) rfl (by rw [hml]; rfl) (argsL := [(.ref b51), (.int (1 : Int32)), (.int (4 : Int32))]) (rest := []) (lenOf pd_3 rfl) rfl (by show 2 * 0 + _ ≤ _; exact Nat.le_of_eq rfl) (hb hby at_116) (fun _ _ => ⟨rfl, rfl, (by decide : 0 + 1 + 1 + 0 + 0 + 0 + 0 + 0 + 0 + 0 + 0 + 0 + 0 + 1 + 0 + 0 ≤ _), (by decide : 0 + 2 + 16 + 0 + 0 + 0 + 0 + 0 + 0 + 0 + 0 + 0 + 0 + 5 + 0 + 0 ≤ _)⟩)
  dsimp only [Pt.U, Pt.locs, Pt.cells, Pt.slots] at X58 l58 y58 z58 st58 hQ58
  replace X58 := own_stand X58 l58 y58 z58
  clear l58 y58 z58
  obtain ⟨rfl, N58, V58⟩ := hQ58
  refine own_st (g1 := (mkF m 119 #[.val (.long q1), .second, .val (.long q2), .second, .val (.long q3), .second, .val (.long q4), .second, .val (.long q5), .second, .val (.ref b39), .val (.long (f5 0)), .second, .val (.long (f6 0)), .second, .val (.long (f7 0)), .second, .val (.long (f8 0)), .second, .val (.long (f9 0)), .second, .val (.ref b51)] [])) (st58) ?_
  obtain ⟨s2, hs2⟩ : ∃ f : Nat → Int64, f = own_cs s1 1 4 := ⟨_, rfl⟩
  rw [← hs2] at V58
  have R7 := Fr.app R6 N58
  refine own_st (g1 := (mkF m 121 #[.val (.long q1), .second, .val (.long q2), .second, .val (.long q3), .second, .val (.long q4), .second, .val (.long q5), .second, .val (.ref b39), .val (.long (f5 0)), .second, .val (.long (f6 0)), .second, .val (.long (f7 0)), .second, .val (.long (f8 0)), .second, .val (.long (f9 0)), .second, .val (.ref b51)] [(.ref b51)])) (fun zt zk => XS.aload X58.here hx rfl (hb hby at_119) rfl rfl zk) ?_
  refine own_st (g1 := (mkF m 122 #[.val (.long q1), .second, .val (.long q2), .second, .val (.long q3), .second, .val (.long q4), .second, .val (.long q5), .second, .val (.ref b39), .val (.long (f5 0)), .second, .val (.long (f6 0)), .second, .val (.long (f7 0)), .second, .val (.long (f8 0)), .second, .val (.long (f9 0)), .second, .val (.ref b51)] [(.int (0 : Int32)), (.ref b51)])) (fun zt zk => XS.iconst X58.here hx rfl (hb hby at_121) zk) ?_
  refine own_st (g1 := (mkF m 123 #[.val (.long q1), .second, .val (.long q2), .second, .val (.long q3), .second, .val (.long q4), .second, .val (.long q5), .second, .val (.ref b39), .val (.long (f5 0)), .second, .val (.long (f6 0)), .second, .val (.long (f7 0)), .second, .val (.long (f8 0)), .second, .val (.long (f9 0)), .second, .val (.ref b51)] [(.int (2 : Int32)), (.int (0 : Int32)), (.ref b51)])) (fun zt zk => XS.iconst X58.here hx rfl (hb hby at_122) zk) ?_
  obtain ⟨_, _, ⟨T59, L59, k59, n59⟩, -, X59, ⟨Lc59, hQ59, l59, y59, z59⟩, st59⟩ := Jvm.LawKit.callS X58 hx (y := (⟨"com/example/libperturb/libperturb/solver/MinHeapPopPinLaw", "cs", "([JII)V"⟩ : MethodName)) hown (mvT hZ (hw _ (List.mem_of_getElem? (i := 24) rfl))) (mvT hZ (hw _ (List.mem_of_getElem? (i := 25) rfl))) (mvT hZ (hw _ (List.mem_of_getElem? (i := 26) rfl))) (mvT hZ (hw _ (List.mem_of_getElem? (i := 27) rfl))) (by decide) (backOf (W := 0) (rm5 l Z a0 hw [] b51 s2 0 2 T58.heap n0 (by decide) (by decide) gs V58) hZ (hw _ (List.mem_of_getElem? (i := 27) rfl)) (hw _ (List.mem_of_getElem? (i := 26) rfl)) (by decide) (by decide)) (g := (mkF m 123 #[.val (.long q1), .second, .val (.long q2), .second, .val (.long q3), .second, .val (.long q4), .second, .val (.long q5), .second, .val (.ref b39), .val (.long (f5 0)), .second, .val (.long (f6 0)), .second, .val (.long (f7 0)), .second, .val (.long (f8 0)), .second, .val (.long (f9 0)), .second, .val (.ref b51)] [(.int (2 : Int32)), (.int (0 : Int32)), (.ref b51)])) rfl (by rw [hml]; rfl) (argsL := [(.ref b51), (.int (0 : Int32)), (.int (2 : Int32))]) (rest := []) (lenOf pd_3 rfl) rfl (by show 2 * 0 + _ ≤ _; exact Nat.le_of_eq rfl) (hb hby at_123) (fun _ _ => ⟨rfl, rfl, (by decide : 0 + 1 + 1 + 0 + 0 + 0 + 0 + 0 + 0 + 0 + 0 + 0 + 0 + 1 + 0 + 0 + 0 ≤ _), (by decide : 0 + 2 + 16 + 0 + 0 + 0 + 0 + 0 + 0 + 0 + 0 + 0 + 0 + 5 + 0 + 0 + 0 ≤ _)⟩)
  dsimp only [Pt.U, Pt.locs, Pt.cells, Pt.slots] at X59 l59 y59 z59 st59 hQ59
  replace X59 := own_stand X59 l59 y59 z59
  clear l59 y59 z59
  obtain ⟨rfl, N59, V59⟩ := hQ59
  refine own_st (g1 := (mkF m 126 #[.val (.long q1), .second, .val (.long q2), .second, .val (.long q3), .second, .val (.long q4), .second, .val (.long q5), .second, .val (.ref b39), .val (.long (f5 0)), .second, .val (.long (f6 0)), .second, .val (.long (f7 0)), .second, .val (.long (f8 0)), .second, .val (.long (f9 0)), .second, .val (.ref b51)] [])) (st59) ?_
  obtain ⟨s3, hs3⟩ : ∃ f : Nat → Int64, f = own_cs s2 0 2 := ⟨_, rfl⟩
  rw [← hs3] at V59
  have R8 := Fr.app R7 N59
  refine own_st (g1 := (mkF m 128 #[.val (.long q1), .second, .val (.long q2), .second, .val (.long q3), .second, .val (.long q4), .second, .val (.long q5), .second, .val (.ref b39), .val (.long (f5 0)), .second, .val (.long (f6 0)), .second, .val (.long (f7 0)), .second, .val (.long (f8 0)), .second, .val (.long (f9 0)), .second, .val (.ref b51)] [(.ref b51)])) (fun zt zk => XS.aload X59.here hx rfl (hb hby at_126) rfl rfl zk) ?_
  refine own_st (g1 := (mkF m 129 #[.val (.long q1), .second, .val (.long q2), .second, .val (.long q3), .second, .val (.long q4), .second, .val (.long q5), .second, .val (.ref b39), .val (.long (f5 0)), .second, .val (.long (f6 0)), .second, .val (.long (f7 0)), .second, .val (.long (f8 0)), .second, .val (.long (f9 0)), .second, .val (.ref b51)] [(.int (1 : Int32)), (.ref b51)])) (fun zt zk => XS.iconst X59.here hx rfl (hb hby at_128) zk) ?_
  refine own_st (g1 := (mkF m 130 #[.val (.long q1), .second, .val (.long q2), .second, .val (.long q3), .second, .val (.long q4), .second, .val (.long q5), .second, .val (.ref b39), .val (.long (f5 0)), .second, .val (.long (f6 0)), .second, .val (.long (f7 0)), .second, .val (.long (f8 0)), .second, .val (.long (f9 0)), .second, .val (.ref b51)] [(.int (3 : Int32)), (.int (1 : Int32)), (.ref b51)])) (fun zt zk => XS.iconst X59.here hx rfl (hb hby at_129) zk) ?_
  obtain ⟨_, _, ⟨T60, L60, k60, n60⟩, -, X60, ⟨Lc60, hQ60, l60, y60, z60⟩, st60⟩ := Jvm.LawKit.callS X59 hx (y := (⟨"com/example/libperturb/libperturb/solver/MinHeapPopPinLaw", "cs", "([JII)V"⟩ : MethodName)) hown (mvT hZ (hw _ (List.mem_of_getElem? (i := 24) rfl))) (mvT hZ (hw _ (List.mem_of_getElem? (i := 25) rfl))) (mvT hZ (hw _ (List.mem_of_getElem? (i := 26) rfl))) (mvT hZ (hw _ (List.mem_of_getElem? (i := 27) rfl))) (by decide) (backOf (W := 0) (rm5 l Z a0 hw [] b51 s3 1 3 T59.heap n0 (by decide) (by decide) gs V59) hZ (hw _ (List.mem_of_getElem? (i := 27) rfl)) (hw _ (List.mem_of_getElem? (i := 26) rfl)) (by decide) (by decide)) (g := (mkF m 130 #[.val (.long q1), .second, .val (.long q2), .second, .val (.long q3), .second, .val (.long q4), .second, .val (.long q5), .second, .val (.ref b39), .val (.long (f5 0)), .second, .val (.long (f6 0)), .second, .val (.long (f7 0)), .second, .val (.long (f8 0)), .second, .val (.long (f9 0)), .second, .val (.ref b51)] [(.int (3 : Int32)), (.int (1 : Int32)), (.ref b51)])) rfl (by rw [hml]; rfl) (argsL := [(.ref b51), (.int (1 : Int32)), (.int (3 : Int32))]) (rest := []) (lenOf pd_3 rfl) rfl (by show 2 * 0 + _ ≤ _; exact Nat.le_of_eq rfl) (hb hby at_130) (fun _ _ => ⟨rfl, rfl, (by decide : 0 + 1 + 1 + 0 + 0 + 0 + 0 + 0 + 0 + 0 + 0 + 0 + 0 + 1 + 0 + 0 + 0 + 0 ≤ _), (by decide : 0 + 2 + 16 + 0 + 0 + 0 + 0 + 0 + 0 + 0 + 0 + 0 + 0 + 5 + 0 + 0 + 0 + 0 ≤ _)⟩)
  dsimp only [Pt.U, Pt.locs, Pt.cells, Pt.slots] at X60 l60 y60 z60 st60 hQ60
  replace X60 := own_stand X60 l60 y60 z60
  clear l60 y60 z60
  obtain ⟨rfl, N60, V60⟩ := hQ60
  refine own_st (g1 := (mkF m 133 #[.val (.long q1), .second, .val (.long q2), .second, .val (.long q3), .second, .val (.long q4), .second, .val (.long q5), .second, .val (.ref b39), .val (.long (f5 0)), .second, .val (.long (f6 0)), .second, .val (.long (f7 0)), .second, .val (.long (f8 0)), .second, .val (.long (f9 0)), .second, .val (.ref b51)] [])) (st60) ?_
  obtain ⟨s4, hs4⟩ : ∃ f : Nat → Int64, f = own_cs s3 1 3 := ⟨_, rfl⟩
  rw [← hs4] at V60
  have R9 := Fr.app R8 N60
  refine own_st (g1 := (mkF m 135 #[.val (.long q1), .second, .val (.long q2), .second, .val (.long q3), .second, .val (.long q4), .second, .val (.long q5), .second, .val (.ref b39), .val (.long (f5 0)), .second, .val (.long (f6 0)), .second, .val (.long (f7 0)), .second, .val (.long (f8 0)), .second, .val (.long (f9 0)), .second, .val (.ref b51)] [(.ref b51)])) (fun zt zk => XS.aload X60.here hx rfl (hb hby at_133) rfl rfl zk) ?_
  refine own_st (g1 := (mkF m 136 #[.val (.long q1), .second, .val (.long q2), .second, .val (.long q3), .second, .val (.long q4), .second, .val (.long q5), .second, .val (.ref b39), .val (.long (f5 0)), .second, .val (.long (f6 0)), .second, .val (.long (f7 0)), .second, .val (.long (f8 0)), .second, .val (.long (f9 0)), .second, .val (.ref b51)] [(.int (0 : Int32)), (.ref b51)])) (fun zt zk => XS.iconst X60.here hx rfl (hb hby at_135) zk) ?_
  refine own_st (g1 := (mkF m 137 #[.val (.long q1), .second, .val (.long q2), .second, .val (.long q3), .second, .val (.long q4), .second, .val (.long q5), .second, .val (.ref b39), .val (.long (f5 0)), .second, .val (.long (f6 0)), .second, .val (.long (f7 0)), .second, .val (.long (f8 0)), .second, .val (.long (f9 0)), .second, .val (.ref b51)] [(.int (1 : Int32)), (.int (0 : Int32)), (.ref b51)])) (fun zt zk => XS.iconst X60.here hx rfl (hb hby at_136) zk) ?_
  obtain ⟨_, _, ⟨T61, L61, k61, n61⟩, -, X61, ⟨Lc61, hQ61, l61, y61, z61⟩, st61⟩ := Jvm.LawKit.callS X60 hx (y := (⟨"com/example/libperturb/libperturb/solver/MinHeapPopPinLaw", "cs", "([JII)V"⟩ : MethodName)) hown (mvT hZ (hw _ (List.mem_of_getElem? (i := 24) rfl))) (mvT hZ (hw _ (List.mem_of_getElem? (i := 25) rfl))) (mvT hZ (hw _ (List.mem_of_getElem? (i := 26) rfl))) (mvT hZ (hw _ (List.mem_of_getElem? (i := 27) rfl))) (by decide) (backOf (W := 0) (rm5 l Z a0 hw [] b51 s4 0 1 T60.heap n0 (by decide) (by decide) gs V60) hZ (hw _ (List.mem_of_getElem? (i := 27) rfl)) (hw _ (List.mem_of_getElem? (i := 26) rfl)) (by decide) (by decide)) (g := (mkF m 137 #[.val (.long q1), .second, .val (.long q2), .second, .val (.long q3), .second, .val (.long q4), .second, .val (.long q5), .second, .val (.ref b39), .val (.long (f5 0)), .second, .val (.long (f6 0)), .second, .val (.long (f7 0)), .second, .val (.long (f8 0)), .second, .val (.long (f9 0)), .second, .val (.ref b51)] [(.int (1 : Int32)), (.int (0 : Int32)), (.ref b51)])) rfl (by rw [hml]; rfl) (argsL := [(.ref b51), (.int (0 : Int32)), (.int (1 : Int32))]) (rest := []) (lenOf pd_3 rfl) rfl (by show 2 * 0 + _ ≤ _; exact Nat.le_of_eq rfl) (hb hby at_137) (fun _ _ => ⟨rfl, rfl, (by decide : 0 + 1 + 1 + 0 + 0 + 0 + 0 + 0 + 0 + 0 + 0 + 0 + 0 + 1 + 0 + 0 + 0 + 0 + 0 ≤ _), (by decide : 0 + 2 + 16 + 0 + 0 + 0 + 0 + 0 + 0 + 0 + 0 + 0 + 0 + 5 + 0 + 0 + 0 + 0 + 0 ≤ _)⟩)
  dsimp only [Pt.U, Pt.locs, Pt.cells, Pt.slots] at X61 l61 y61 z61 st61 hQ61
  replace X61 := own_stand X61 l61 y61 z61
  clear l61 y61 z61
  obtain ⟨rfl, N61, V61⟩ := hQ61
  refine own_st (g1 := (mkF m 140 #[.val (.long q1), .second, .val (.long q2), .second, .val (.long q3), .second, .val (.long q4), .second, .val (.long q5), .second, .val (.ref b39), .val (.long (f5 0)), .second, .val (.long (f6 0)), .second, .val (.long (f7 0)), .second, .val (.long (f8 0)), .second, .val (.long (f9 0)), .second, .val (.ref b51)] [])) (st61) ?_
  obtain ⟨s5, hs5⟩ : ∃ f : Nat → Int64, f = own_cs s4 0 1 := ⟨_, rfl⟩
  rw [← hs5] at V61
  have R10 := Fr.app R9 N61
  refine own_st (g1 := (mkF m 142 #[.val (.long q1), .second, .val (.long q2), .second, .val (.long q3), .second, .val (.long q4), .second, .val (.long q5), .second, .val (.ref b39), .val (.long (f5 0)), .second, .val (.long (f6 0)), .second, .val (.long (f7 0)), .second, .val (.long (f8 0)), .second, .val (.long (f9 0)), .second, .val (.ref b51)] [(.ref b51)])) (fun zt zk => XS.aload X61.here hx rfl (hb hby at_140) rfl rfl zk) ?_
  refine own_st (g1 := (mkF m 143 #[.val (.long q1), .second, .val (.long q2), .second, .val (.long q3), .second, .val (.long q4), .second, .val (.long q5), .second, .val (.ref b39), .val (.long (f5 0)), .second, .val (.long (f6 0)), .second, .val (.long (f7 0)), .second, .val (.long (f8 0)), .second, .val (.long (f9 0)), .second, .val (.ref b51)] [(.int (2 : Int32)), (.ref b51)])) (fun zt zk => XS.iconst X61.here hx rfl (hb hby at_142) zk) ?_
  refine own_st (g1 := (mkF m 144 #[.val (.long q1), .second, .val (.long q2), .second, .val (.long q3), .second, .val (.long q4), .second, .val (.long q5), .second, .val (.ref b39), .val (.long (f5 0)), .second, .val (.long (f6 0)), .second, .val (.long (f7 0)), .second, .val (.long (f8 0)), .second, .val (.long (f9 0)), .second, .val (.ref b51)] [(.int (4 : Int32)), (.int (2 : Int32)), (.ref b51)])) (fun zt zk => XS.iconst X61.here hx rfl (hb hby at_143) zk) ?_
  obtain ⟨_, _, ⟨T62, L62, k62, n62⟩, -, X62, ⟨Lc62, hQ62, l62, y62, z62⟩, st62⟩ := Jvm.LawKit.callS X61 hx (y := (⟨"com/example/libperturb/libperturb/solver/MinHeapPopPinLaw", "cs", "([JII)V"⟩ : MethodName)) hown (mvT hZ (hw _ (List.mem_of_getElem? (i := 24) rfl))) (mvT hZ (hw _ (List.mem_of_getElem? (i := 25) rfl))) (mvT hZ (hw _ (List.mem_of_getElem? (i := 26) rfl))) (mvT hZ (hw _ (List.mem_of_getElem? (i := 27) rfl))) (by decide) (backOf (W := 0) (rm5 l Z a0 hw [] b51 s5 2 4 T61.heap n0 (by decide) (by decide) gs V61) hZ (hw _ (List.mem_of_getElem? (i := 27) rfl)) (hw _ (List.mem_of_getElem? (i := 26) rfl)) (by decide) (by decide)) (g := (mkF m 144 #[.val (.long q1), .second, .val (.long q2), .second, .val (.long q3), .second, .val (.long q4), .second, .val (.long q5), .second, .val (.ref b39), .val (.long (f5 0)), .second, .val (.long (f6 0)), .second, .val (.long (f7 0)), .second, .val (.long (f8 0)), .second, .val (.long (f9 0)), .second, .val (.ref b51)] [(.int (4 : Int32)), (.int (2 : Int32)), (.ref b51)])) rfl (by rw [hml]; rfl) (argsL := [(.ref b51), (.int (2 : Int32)), (.int (4 : Int32))]) (rest := []) (lenOf pd_3 rfl) rfl (by show 2 * 0 + _ ≤ _; exact Nat.le_of_eq rfl) (hb hby at_144) (fun _ _ => ⟨rfl, rfl, (by decide : 0 + 1 + 1 + 0 + 0 + 0 + 0 + 0 + 0 + 0 + 0 + 0 + 0 + 1 + 0 + 0 + 0 + 0 + 0 + 0 ≤ _), (by decide : 0 + 2 + 16 + 0 + 0 + 0 + 0 + 0 + 0 + 0 + 0 + 0 + 0 + 5 + 0 + 0 + 0 + 0 + 0 + 0 ≤ _)⟩)
  dsimp only [Pt.U, Pt.locs, Pt.cells, Pt.slots] at X62 l62 y62 z62 st62 hQ62
  replace X62 := own_stand X62 l62 y62 z62
  clear l62 y62 z62
  obtain ⟨rfl, N62, V62⟩ := hQ62
  refine own_st (g1 := (mkF m 147 #[.val (.long q1), .second, .val (.long q2), .second, .val (.long q3), .second, .val (.long q4), .second, .val (.long q5), .second, .val (.ref b39), .val (.long (f5 0)), .second, .val (.long (f6 0)), .second, .val (.long (f7 0)), .second, .val (.long (f8 0)), .second, .val (.long (f9 0)), .second, .val (.ref b51)] [])) (st62) ?_
  obtain ⟨s6, hs6⟩ : ∃ f : Nat → Int64, f = own_cs s5 2 4 := ⟨_, rfl⟩
  rw [← hs6] at V62
  have R11 := Fr.app R10 N62
  refine own_st (g1 := (mkF m 149 #[.val (.long q1), .second, .val (.long q2), .second, .val (.long q3), .second, .val (.long q4), .second, .val (.long q5), .second, .val (.ref b39), .val (.long (f5 0)), .second, .val (.long (f6 0)), .second, .val (.long (f7 0)), .second, .val (.long (f8 0)), .second, .val (.long (f9 0)), .second, .val (.ref b51)] [(.ref b51)])) (fun zt zk => XS.aload X62.here hx rfl (hb hby at_147) rfl rfl zk) ?_
  refine own_st (g1 := (mkF m 150 #[.val (.long q1), .second, .val (.long q2), .second, .val (.long q3), .second, .val (.long q4), .second, .val (.long q5), .second, .val (.ref b39), .val (.long (f5 0)), .second, .val (.long (f6 0)), .second, .val (.long (f7 0)), .second, .val (.long (f8 0)), .second, .val (.long (f9 0)), .second, .val (.ref b51)] [(.int (1 : Int32)), (.ref b51)])) (fun zt zk => XS.iconst X62.here hx rfl (hb hby at_149) zk) ?_
  refine own_st (g1 := (mkF m 151 #[.val (.long q1), .second, .val (.long q2), .second, .val (.long q3), .second, .val (.long q4), .second, .val (.long q5), .second, .val (.ref b39), .val (.long (f5 0)), .second, .val (.long (f6 0)), .second, .val (.long (f7 0)), .second, .val (.long (f8 0)), .second, .val (.long (f9 0)), .second, .val (.ref b51)] [(.int (2 : Int32)), (.int (1 : Int32)), (.ref b51)])) (fun zt zk => XS.iconst X62.here hx rfl (hb hby at_150) zk) ?_
  obtain ⟨_, _, ⟨T63, L63, k63, n63⟩, -, X63, ⟨Lc63, hQ63, l63, y63, z63⟩, st63⟩ := Jvm.LawKit.callS X62 hx (y := (⟨"com/example/libperturb/libperturb/solver/MinHeapPopPinLaw", "cs", "([JII)V"⟩ : MethodName)) hown (mvT hZ (hw _ (List.mem_of_getElem? (i := 24) rfl))) (mvT hZ (hw _ (List.mem_of_getElem? (i := 25) rfl))) (mvT hZ (hw _ (List.mem_of_getElem? (i := 26) rfl))) (mvT hZ (hw _ (List.mem_of_getElem? (i := 27) rfl))) (by decide) (backOf (W := 0) (rm5 l Z a0 hw [] b51 s6 1 2 T62.heap n0 (by decide) (by decide) gs V62) hZ (hw _ (List.mem_of_getElem? (i := 27) rfl)) (hw _ (List.mem_of_getElem? (i := 26) rfl)) (by decide) (by decide)) (g := (mkF m 151 #[.val (.long q1), .second, .val (.long q2), .second, .val (.long q3), .second, .val (.long q4), .second, .val (.long q5), .second, .val (.ref b39), .val (.long (f5 0)), .second, .val (.long (f6 0)), .second, .val (.long (f7 0)), .second, .val (.long (f8 0)), .second, .val (.long (f9 0)), .second, .val (.ref b51)] [(.int (2 : Int32)), (.int (1 : Int32)), (.ref b51)])) rfl (by rw [hml]; rfl) (argsL := [(.ref b51), (.int (1 : Int32)), (.int (2 : Int32))]) (rest := []) (lenOf pd_3 rfl) rfl (by show 2 * 0 + _ ≤ _; exact Nat.le_of_eq rfl) (hb hby at_151) (fun _ _ => ⟨rfl, rfl, (by decide : 0 + 1 + 1 + 0 + 0 + 0 + 0 + 0 + 0 + 0 + 0 + 0 + 0 + 1 + 0 + 0 + 0 + 0 + 0 + 0 + 0 ≤ _), (by decide : 0 + 2 + 16 + 0 + 0 + 0 + 0 + 0 + 0 + 0 + 0 + 0 + 0 + 5 + 0 + 0 + 0 + 0 + 0 + 0 + 0 ≤ _)⟩)
  dsimp only [Pt.U, Pt.locs, Pt.cells, Pt.slots] at X63 l63 y63 z63 st63 hQ63
  replace X63 := own_stand X63 l63 y63 z63
  clear l63 y63 z63
  obtain ⟨rfl, N63, V63⟩ := hQ63
  refine own_st (g1 := (mkF m 154 #[.val (.long q1), .second, .val (.long q2), .second, .val (.long q3), .second, .val (.long q4), .second, .val (.long q5), .second, .val (.ref b39), .val (.long (f5 0)), .second, .val (.long (f6 0)), .second, .val (.long (f7 0)), .second, .val (.long (f8 0)), .second, .val (.long (f9 0)), .second, .val (.ref b51)] [])) (st63) ?_
  obtain ⟨s7, hs7⟩ : ∃ f : Nat → Int64, f = own_cs s6 1 2 := ⟨_, rfl⟩
  rw [← hs7] at V63
  have R12 := Fr.app R11 N63
  refine own_st (g1 := (mkF m 156 #[.val (.long q1), .second, .val (.long q2), .second, .val (.long q3), .second, .val (.long q4), .second, .val (.long q5), .second, .val (.ref b39), .val (.long (f5 0)), .second, .val (.long (f6 0)), .second, .val (.long (f7 0)), .second, .val (.long (f8 0)), .second, .val (.long (f9 0)), .second, .val (.ref b51)] [(.ref b51)])) (fun zt zk => XS.aload X63.here hx rfl (hb hby at_154) rfl rfl zk) ?_
  refine own_st (g1 := (mkF m 157 #[.val (.long q1), .second, .val (.long q2), .second, .val (.long q3), .second, .val (.long q4), .second, .val (.long q5), .second, .val (.ref b39), .val (.long (f5 0)), .second, .val (.long (f6 0)), .second, .val (.long (f7 0)), .second, .val (.long (f8 0)), .second, .val (.long (f9 0)), .second, .val (.ref b51)] [(.int (3 : Int32)), (.ref b51)])) (fun zt zk => XS.iconst X63.here hx rfl (hb hby at_156) zk) ?_
  refine own_st (g1 := (mkF m 158 #[.val (.long q1), .second, .val (.long q2), .second, .val (.long q3), .second, .val (.long q4), .second, .val (.long q5), .second, .val (.ref b39), .val (.long (f5 0)), .second, .val (.long (f6 0)), .second, .val (.long (f7 0)), .second, .val (.long (f8 0)), .second, .val (.long (f9 0)), .second, .val (.ref b51)] [(.int (4 : Int32)), (.int (3 : Int32)), (.ref b51)])) (fun zt zk => XS.iconst X63.here hx rfl (hb hby at_157) zk) ?_
  obtain ⟨_, _, ⟨T64, L64, k64, n64⟩, -, X64, ⟨Lc64, hQ64, l64, y64, z64⟩, st64⟩ := Jvm.LawKit.callS X63 hx (y := (⟨"com/example/libperturb/libperturb/solver/MinHeapPopPinLaw", "cs", "([JII)V"⟩ : MethodName)) hown (mvT hZ (hw _ (List.mem_of_getElem? (i := 24) rfl))) (mvT hZ (hw _ (List.mem_of_getElem? (i := 25) rfl))) (mvT hZ (hw _ (List.mem_of_getElem? (i := 26) rfl))) (mvT hZ (hw _ (List.mem_of_getElem? (i := 27) rfl))) (by decide) (backOf (W := 0) (rm5 l Z a0 hw [] b51 s7 3 4 T63.heap n0 (by decide) (by decide) gs V63) hZ (hw _ (List.mem_of_getElem? (i := 27) rfl)) (hw _ (List.mem_of_getElem? (i := 26) rfl)) (by decide) (by decide)) (g := (mkF m 158 #[.val (.long q1), .second, .val (.long q2), .second, .val (.long q3), .second, .val (.long q4), .second, .val (.long q5), .second, .val (.ref b39), .val (.long (f5 0)), .second, .val (.long (f6 0)), .second, .val (.long (f7 0)), .second, .val (.long (f8 0)), .second, .val (.long (f9 0)), .second, .val (.ref b51)] [(.int (4 : Int32)), (.int (3 : Int32)), (.ref b51)])) rfl (by rw [hml]; rfl) (argsL := [(.ref b51), (.int (3 : Int32)), (.int (4 : Int32))]) (rest := []) (lenOf pd_3 rfl) rfl (by show 2 * 0 + _ ≤ _; exact Nat.le_of_eq rfl) (hb hby at_158) (fun _ _ => ⟨rfl, rfl, (by decide : 0 + 1 + 1 + 0 + 0 + 0 + 0 + 0 + 0 + 0 + 0 + 0 + 0 + 1 + 0 + 0 + 0 + 0 + 0 + 0 + 0 + 0 ≤ _), (by decide : 0 + 2 + 16 + 0 + 0 + 0 + 0 + 0 + 0 + 0 + 0 + 0 + 0 + 5 + 0 + 0 + 0 + 0 + 0 + 0 + 0 + 0 ≤ _)⟩)
  dsimp only [Pt.U, Pt.locs, Pt.cells, Pt.slots] at X64 l64 y64 z64 st64 hQ64
  replace X64 := own_stand X64 l64 y64 z64
  clear l64 y64 z64
  obtain ⟨rfl, N64, V64⟩ := hQ64
  refine own_st (g1 := (mkF m 161 #[.val (.long q1), .second, .val (.long q2), .second, .val (.long q3), .second, .val (.long q4), .second, .val (.long q5), .second, .val (.ref b39), .val (.long (f5 0)), .second, .val (.long (f6 0)), .second, .val (.long (f7 0)), .second, .val (.long (f8 0)), .second, .val (.long (f9 0)), .second, .val (.ref b51)] [])) (st64) ?_
  obtain ⟨s8, hs8⟩ : ∃ f : Nat → Int64, f = own_cs s7 3 4 := ⟨_, rfl⟩
  rw [← hs8] at V64
  have R13 := Fr.app R12 N64
  refine own_st (g1 := (mkF m 163 #[.val (.long q1), .second, .val (.long q2), .second, .val (.long q3), .second, .val (.long q4), .second, .val (.long q5), .second, .val (.ref b39), .val (.long (f5 0)), .second, .val (.long (f6 0)), .second, .val (.long (f7 0)), .second, .val (.long (f8 0)), .second, .val (.long (f9 0)), .second, .val (.ref b51)] [(.ref b51)])) (fun zt zk => XS.aload X64.here hx rfl (hb hby at_161) rfl rfl zk) ?_
  refine own_st (g1 := (mkF m 164 #[.val (.long q1), .second, .val (.long q2), .second, .val (.long q3), .second, .val (.long q4), .second, .val (.long q5), .second, .val (.ref b39), .val (.long (f5 0)), .second, .val (.long (f6 0)), .second, .val (.long (f7 0)), .second, .val (.long (f8 0)), .second, .val (.long (f9 0)), .second, .val (.ref b51)] [(.int (2 : Int32)), (.ref b51)])) (fun zt zk => XS.iconst X64.here hx rfl (hb hby at_163) zk) ?_
  refine own_st (g1 := (mkF m 165 #[.val (.long q1), .second, .val (.long q2), .second, .val (.long q3), .second, .val (.long q4), .second, .val (.long q5), .second, .val (.ref b39), .val (.long (f5 0)), .second, .val (.long (f6 0)), .second, .val (.long (f7 0)), .second, .val (.long (f8 0)), .second, .val (.long (f9 0)), .second, .val (.ref b51)] [(.int (3 : Int32)), (.int (2 : Int32)), (.ref b51)])) (fun zt zk => XS.iconst X64.here hx rfl (hb hby at_164) zk) ?_
  obtain ⟨_, _, ⟨T65, L65, k65, n65⟩, -, X65, ⟨Lc65, hQ65, l65, y65, z65⟩, st65⟩ := Jvm.LawKit.callS X64 hx (y := (⟨"com/example/libperturb/libperturb/solver/MinHeapPopPinLaw", "cs", "([JII)V"⟩ : MethodName)) hown (mvT hZ (hw _ (List.mem_of_getElem? (i := 24) rfl))) (mvT hZ (hw _ (List.mem_of_getElem? (i := 25) rfl))) (mvT hZ (hw _ (List.mem_of_getElem? (i := 26) rfl))) (mvT hZ (hw _ (List.mem_of_getElem? (i := 27) rfl))) (by decide) (backOf (W := 0) (rm5 l Z a0 hw [] b51 s8 2 3 T64.heap n0 (by decide) (by decide) gs V64) hZ (hw _ (List.mem_of_getElem? (i := 27) rfl)) (hw _ (List.mem_of_getElem? (i := 26) rfl)) (by decide) (by decide)) (g := (mkF m 165 #[.val (.long q1), .second, .val (.long q2), .second, .val (.long q3), .second, .val (.long q4), .second, .val (.long q5), .second, .val (.ref b39), .val (.long (f5 0)), .second, .val (.long (f6 0)), .second, .val (.long (f7 0)), .second, .val (.long (f8 0)), .second, .val (.long (f9 0)), .second, .val (.ref b51)] [(.int (3 : Int32)), (.int (2 : Int32)), (.ref b51)])) rfl (by rw [hml]; rfl) (argsL := [(.ref b51), (.int (2 : Int32)), (.int (3 : Int32))]) (rest := []) (lenOf pd_3 rfl) rfl (by show 2 * 0 + _ ≤ _; exact Nat.le_of_eq rfl) (hb hby at_165) (fun _ _ => ⟨rfl, rfl, (by decide : 0 + 1 + 1 + 0 + 0 + 0 + 0 + 0 + 0 + 0 + 0 + 0 + 0 + 1 + 0 + 0 + 0 + 0 + 0 + 0 + 0 + 0 + 0 ≤ _), (by decide : 0 + 2 + 16 + 0 + 0 + 0 + 0 + 0 + 0 + 0 + 0 + 0 + 0 + 5 + 0 + 0 + 0 + 0 + 0 + 0 + 0 + 0 + 0 ≤ _)⟩)
  dsimp only [Pt.U, Pt.locs, Pt.cells, Pt.slots] at X65 l65 y65 z65 st65 hQ65
  replace X65 := own_stand X65 l65 y65 z65
  clear l65 y65 z65
  obtain ⟨rfl, N65, V65⟩ := hQ65
  refine own_st (g1 := (mkF m 168 #[.val (.long q1), .second, .val (.long q2), .second, .val (.long q3), .second, .val (.long q4), .second, .val (.long q5), .second, .val (.ref b39), .val (.long (f5 0)), .second, .val (.long (f6 0)), .second, .val (.long (f7 0)), .second, .val (.long (f8 0)), .second, .val (.long (f9 0)), .second, .val (.ref b51)] [])) (st65) ?_
  obtain ⟨s9, hs9⟩ : ∃ f : Nat → Int64, f = own_cs s8 2 3 := ⟨_, rfl⟩
  rw [← hs9] at V65
  have R14 := Fr.app R13 N65
  have hall := own_law q1 q2 q3 q4 q5 f0 hf1 hf2 hf3 hf4 hf5 hf6 hf7 hf8 hf9 hf10 hs0 hs1 hs2 hs3 hs4 hs5 hs6 hs7 hs8 hs9
  obtain ⟨r0, r1, r2, r3, r4⟩ := hall
  refine own_st (g1 := (mkF m 170 #[.val (.long q1), .second, .val (.long q2), .second, .val (.long q3), .second, .val (.long q4), .second, .val (.long q5), .second, .val (.ref b39), .val (.long (f5 0)), .second, .val (.long (f6 0)), .second, .val (.long (f7 0)), .second, .val (.long (f8 0)), .second, .val (.long (f9 0)), .second, .val (.ref b51)] [(.long (f5 0))])) (fun zt zk => XS.lload X65.here hx rfl (hb hby at_168) rfl zk) ?_
  refine own_st (g1 := (mkF m 172 #[.val (.long q1), .second, .val (.long q2), .second, .val (.long q3), .second, .val (.long q4), .second, .val (.long q5), .second, .val (.ref b39), .val (.long (f5 0)), .second, .val (.long (f6 0)), .second, .val (.long (f7 0)), .second, .val (.long (f8 0)), .second, .val (.long (f9 0)), .second, .val (.ref b51)] [(.ref b51), (.long (f5 0))])) (fun zt zk => XS.aload X65.here hx rfl (hb hby at_170) rfl rfl zk) ?_
  refine own_st (g1 := (mkF m 173 #[.val (.long q1), .second, .val (.long q2), .second, .val (.long q3), .second, .val (.long q4), .second, .val (.long q5), .second, .val (.ref b39), .val (.long (f5 0)), .second, .val (.long (f6 0)), .second, .val (.long (f7 0)), .second, .val (.long (f8 0)), .second, .val (.long (f9 0)), .second, .val (.ref b51)] [(.int (0 : Int32)), (.ref b51), (.long (f5 0))])) (fun zt zk => XS.iconst X65.here hx rfl (hb hby at_172) zk) ?_
  refine own_st (g1 := (mkF m 174 #[.val (.long q1), .second, .val (.long q2), .second, .val (.long q3), .second, .val (.long q4), .second, .val (.long q5), .second, .val (.ref b39), .val (.long (f5 0)), .second, .val (.long (f6 0)), .second, .val (.long (f7 0)), .second, .val (.long (f8 0)), .second, .val (.long (f9 0)), .second, .val (.ref b51)] [(.long (s9 0)), (.long (f5 0))])) (own_jld X65 hx hZ rfl V65 (j := 0) (v := (.long (s9 0))) rfl (by decide) (by decide) rfl (g := (mkF m 173 #[.val (.long q1), .second, .val (.long q2), .second, .val (.long q3), .second, .val (.long q4), .second, .val (.long q5), .second, .val (.ref b39), .val (.long (f5 0)), .second, .val (.long (f6 0)), .second, .val (.long (f7 0)), .second, .val (.long (f8 0)), .second, .val (.long (f9 0)), .second, .val (.ref b51)] [(.int (0 : Int32)), (.ref b51), (.long (f5 0))])) rfl rfl (hb hby at_173)) ?_
  refine own_st (g1 := (mkF m 175 #[.val (.long q1), .second, .val (.long q2), .second, .val (.long q3), .second, .val (.long q4), .second, .val (.long q5), .second, .val (.ref b39), .val (.long (f5 0)), .second, .val (.long (f6 0)), .second, .val (.long (f7 0)), .second, .val (.long (f8 0)), .second, .val (.long (f9 0)), .second, .val (.ref b51)] [(.int (lcmpW (f5 0) (s9 0)))])) (fun zt zk => XS.lcmp X65.here hx rfl (hb hby at_174) rfl zk) ?_
  refine own_st (g1 := (mkF m 178 #[.val (.long q1), .second, .val (.long q2), .second, .val (.long q3), .second, .val (.long q4), .second, .val (.long q5), .second, .val (.ref b39), .val (.long (f5 0)), .second, .val (.long (f6 0)), .second, .val (.long (f7 0)), .second, .val (.long (f8 0)), .second, .val (.long (f9 0)), .second, .val (.ref b51)] [])) (fun zt zk => XS.ifNo X65.here hx rfl (hb hby at_175) rfl ((if0 _ _).trans (teq ((lw_eq _ _).mpr r0)).2) zk) ?_
  refine own_st (g1 := (mkF m 180 #[.val (.long q1), .second, .val (.long q2), .second, .val (.long q3), .second, .val (.long q4), .second, .val (.long q5), .second, .val (.ref b39), .val (.long (f5 0)), .second, .val (.long (f6 0)), .second, .val (.long (f7 0)), .second, .val (.long (f8 0)), .second, .val (.long (f9 0)), .second, .val (.ref b51)] [(.long (f6 0))])) (fun zt zk => XS.lload X65.here hx rfl (hb hby at_178) rfl zk) ?_
  refine own_st (g1 := (mkF m 182 #[.val (.long q1), .second, .val (.long q2), .second, .val (.long q3), .second, .val (.long q4), .second, .val (.long q5), .second, .val (.ref b39), .val (.long (f5 0)), .second, .val (.long (f6 0)), .second, .val (.long (f7 0)), .second, .val (.long (f8 0)), .second, .val (.long (f9 0)), .second, .val (.ref b51)] [(.ref b51), (.long (f6 0))])) (fun zt zk => XS.aload X65.here hx rfl (hb hby at_180) rfl rfl zk) ?_
  refine own_st (g1 := (mkF m 183 #[.val (.long q1), .second, .val (.long q2), .second, .val (.long q3), .second, .val (.long q4), .second, .val (.long q5), .second, .val (.ref b39), .val (.long (f5 0)), .second, .val (.long (f6 0)), .second, .val (.long (f7 0)), .second, .val (.long (f8 0)), .second, .val (.long (f9 0)), .second, .val (.ref b51)] [(.int (1 : Int32)), (.ref b51), (.long (f6 0))])) (fun zt zk => XS.iconst X65.here hx rfl (hb hby at_182) zk) ?_
  refine own_st (g1 := (mkF m 184 #[.val (.long q1), .second, .val (.long q2), .second, .val (.long q3), .second, .val (.long q4), .second, .val (.long q5), .second, .val (.ref b39), .val (.long (f5 0)), .second, .val (.long (f6 0)), .second, .val (.long (f7 0)), .second, .val (.long (f8 0)), .second, .val (.long (f9 0)), .second, .val (.ref b51)] [(.long (s9 1)), (.long (f6 0))])) (own_jld X65 hx hZ rfl V65 (j := 1) (v := (.long (s9 1))) rfl (by decide) (by decide) rfl (g := (mkF m 183 #[.val (.long q1), .second, .val (.long q2), .second, .val (.long q3), .second, .val (.long q4), .second, .val (.long q5), .second, .val (.ref b39), .val (.long (f5 0)), .second, .val (.long (f6 0)), .second, .val (.long (f7 0)), .second, .val (.long (f8 0)), .second, .val (.long (f9 0)), .second, .val (.ref b51)] [(.int (1 : Int32)), (.ref b51), (.long (f6 0))])) rfl rfl (hb hby at_183)) ?_
  refine own_st (g1 := (mkF m 185 #[.val (.long q1), .second, .val (.long q2), .second, .val (.long q3), .second, .val (.long q4), .second, .val (.long q5), .second, .val (.ref b39), .val (.long (f5 0)), .second, .val (.long (f6 0)), .second, .val (.long (f7 0)), .second, .val (.long (f8 0)), .second, .val (.long (f9 0)), .second, .val (.ref b51)] [(.int (lcmpW (f6 0) (s9 1)))])) (fun zt zk => XS.lcmp X65.here hx rfl (hb hby at_184) rfl zk) ?_
  refine own_st (g1 := (mkF m 188 #[.val (.long q1), .second, .val (.long q2), .second, .val (.long q3), .second, .val (.long q4), .second, .val (.long q5), .second, .val (.ref b39), .val (.long (f5 0)), .second, .val (.long (f6 0)), .second, .val (.long (f7 0)), .second, .val (.long (f8 0)), .second, .val (.long (f9 0)), .second, .val (.ref b51)] [])) (fun zt zk => XS.ifNo X65.here hx rfl (hb hby at_185) rfl ((if0 _ _).trans (teq ((lw_eq _ _).mpr r1)).2) zk) ?_
  refine own_st (g1 := (mkF m 190 #[.val (.long q1), .second, .val (.long q2), .second, .val (.long q3), .second, .val (.long q4), .second, .val (.long q5), .second, .val (.ref b39), .val (.long (f5 0)), .second, .val (.long (f6 0)), .second, .val (.long (f7 0)), .second, .val (.long (f8 0)), .second, .val (.long (f9 0)), .second, .val (.ref b51)] [(.long (f7 0))])) (fun zt zk => XS.lload X65.here hx rfl (hb hby at_188) rfl zk) ?_
  refine own_st (g1 := (mkF m 192 #[.val (.long q1), .second, .val (.long q2), .second, .val (.long q3), .second, .val (.long q4), .second, .val (.long q5), .second, .val (.ref b39), .val (.long (f5 0)), .second, .val (.long (f6 0)), .second, .val (.long (f7 0)), .second, .val (.long (f8 0)), .second, .val (.long (f9 0)), .second, .val (.ref b51)] [(.ref b51), (.long (f7 0))])) (fun zt zk => XS.aload X65.here hx rfl (hb hby at_190) rfl rfl zk) ?_
  refine own_st (g1 := (mkF m 193 #[.val (.long q1), .second, .val (.long q2), .second, .val (.long q3), .second, .val (.long q4), .second, .val (.long q5), .second, .val (.ref b39), .val (.long (f5 0)), .second, .val (.long (f6 0)), .second, .val (.long (f7 0)), .second, .val (.long (f8 0)), .second, .val (.long (f9 0)), .second, .val (.ref b51)] [(.int (2 : Int32)), (.ref b51), (.long (f7 0))])) (fun zt zk => XS.iconst X65.here hx rfl (hb hby at_192) zk) ?_
  refine own_st (g1 := (mkF m 194 #[.val (.long q1), .second, .val (.long q2), .second, .val (.long q3), .second, .val (.long q4), .second, .val (.long q5), .second, .val (.ref b39), .val (.long (f5 0)), .second, .val (.long (f6 0)), .second, .val (.long (f7 0)), .second, .val (.long (f8 0)), .second, .val (.long (f9 0)), .second, .val (.ref b51)] [(.long (s9 2)), (.long (f7 0))])) (own_jld X65 hx hZ rfl V65 (j := 2) (v := (.long (s9 2))) rfl (by decide) (by decide) rfl (g := (mkF m 193 #[.val (.long q1), .second, .val (.long q2), .second, .val (.long q3), .second, .val (.long q4), .second, .val (.long q5), .second, .val (.ref b39), .val (.long (f5 0)), .second, .val (.long (f6 0)), .second, .val (.long (f7 0)), .second, .val (.long (f8 0)), .second, .val (.long (f9 0)), .second, .val (.ref b51)] [(.int (2 : Int32)), (.ref b51), (.long (f7 0))])) rfl rfl (hb hby at_193)) ?_
  refine own_st (g1 := (mkF m 195 #[.val (.long q1), .second, .val (.long q2), .second, .val (.long q3), .second, .val (.long q4), .second, .val (.long q5), .second, .val (.ref b39), .val (.long (f5 0)), .second, .val (.long (f6 0)), .second, .val (.long (f7 0)), .second, .val (.long (f8 0)), .second, .val (.long (f9 0)), .second, .val (.ref b51)] [(.int (lcmpW (f7 0) (s9 2)))])) (fun zt zk => XS.lcmp X65.here hx rfl (hb hby at_194) rfl zk) ?_
  refine own_st (g1 := (mkF m 198 #[.val (.long q1), .second, .val (.long q2), .second, .val (.long q3), .second, .val (.long q4), .second, .val (.long q5), .second, .val (.ref b39), .val (.long (f5 0)), .second, .val (.long (f6 0)), .second, .val (.long (f7 0)), .second, .val (.long (f8 0)), .second, .val (.long (f9 0)), .second, .val (.ref b51)] [])) (fun zt zk => XS.ifNo X65.here hx rfl (hb hby at_195) rfl ((if0 _ _).trans (teq ((lw_eq _ _).mpr r2)).2) zk) ?_
  refine own_st (g1 := (mkF m 200 #[.val (.long q1), .second, .val (.long q2), .second, .val (.long q3), .second, .val (.long q4), .second, .val (.long q5), .second, .val (.ref b39), .val (.long (f5 0)), .second, .val (.long (f6 0)), .second, .val (.long (f7 0)), .second, .val (.long (f8 0)), .second, .val (.long (f9 0)), .second, .val (.ref b51)] [(.long (f8 0))])) (fun zt zk => XS.lload X65.here hx rfl (hb hby at_198) rfl zk) ?_
  refine own_st (g1 := (mkF m 202 #[.val (.long q1), .second, .val (.long q2), .second, .val (.long q3), .second, .val (.long q4), .second, .val (.long q5), .second, .val (.ref b39), .val (.long (f5 0)), .second, .val (.long (f6 0)), .second, .val (.long (f7 0)), .second, .val (.long (f8 0)), .second, .val (.long (f9 0)), .second, .val (.ref b51)] [(.ref b51), (.long (f8 0))])) (fun zt zk => XS.aload X65.here hx rfl (hb hby at_200) rfl rfl zk) ?_
  refine own_st (g1 := (mkF m 203 #[.val (.long q1), .second, .val (.long q2), .second, .val (.long q3), .second, .val (.long q4), .second, .val (.long q5), .second, .val (.ref b39), .val (.long (f5 0)), .second, .val (.long (f6 0)), .second, .val (.long (f7 0)), .second, .val (.long (f8 0)), .second, .val (.long (f9 0)), .second, .val (.ref b51)] [(.int (3 : Int32)), (.ref b51), (.long (f8 0))])) (fun zt zk => XS.iconst X65.here hx rfl (hb hby at_202) zk) ?_
  refine own_st (g1 := (mkF m 204 #[.val (.long q1), .second, .val (.long q2), .second, .val (.long q3), .second, .val (.long q4), .second, .val (.long q5), .second, .val (.ref b39), .val (.long (f5 0)), .second, .val (.long (f6 0)), .second, .val (.long (f7 0)), .second, .val (.long (f8 0)), .second, .val (.long (f9 0)), .second, .val (.ref b51)] [(.long (s9 3)), (.long (f8 0))])) (own_jld X65 hx hZ rfl V65 (j := 3) (v := (.long (s9 3))) rfl (by decide) (by decide) rfl (g := (mkF m 203 #[.val (.long q1), .second, .val (.long q2), .second, .val (.long q3), .second, .val (.long q4), .second, .val (.long q5), .second, .val (.ref b39), .val (.long (f5 0)), .second, .val (.long (f6 0)), .second, .val (.long (f7 0)), .second, .val (.long (f8 0)), .second, .val (.long (f9 0)), .second, .val (.ref b51)] [(.int (3 : Int32)), (.ref b51), (.long (f8 0))])) rfl rfl (hb hby at_203)) ?_
  refine own_st (g1 := (mkF m 205 #[.val (.long q1), .second, .val (.long q2), .second, .val (.long q3), .second, .val (.long q4), .second, .val (.long q5), .second, .val (.ref b39), .val (.long (f5 0)), .second, .val (.long (f6 0)), .second, .val (.long (f7 0)), .second, .val (.long (f8 0)), .second, .val (.long (f9 0)), .second, .val (.ref b51)] [(.int (lcmpW (f8 0) (s9 3)))])) (fun zt zk => XS.lcmp X65.here hx rfl (hb hby at_204) rfl zk) ?_
  refine own_st (g1 := (mkF m 208 #[.val (.long q1), .second, .val (.long q2), .second, .val (.long q3), .second, .val (.long q4), .second, .val (.long q5), .second, .val (.ref b39), .val (.long (f5 0)), .second, .val (.long (f6 0)), .second, .val (.long (f7 0)), .second, .val (.long (f8 0)), .second, .val (.long (f9 0)), .second, .val (.ref b51)] [])) (fun zt zk => XS.ifNo X65.here hx rfl (hb hby at_205) rfl ((if0 _ _).trans (teq ((lw_eq _ _).mpr r3)).2) zk) ?_
  refine own_st (g1 := (mkF m 210 #[.val (.long q1), .second, .val (.long q2), .second, .val (.long q3), .second, .val (.long q4), .second, .val (.long q5), .second, .val (.ref b39), .val (.long (f5 0)), .second, .val (.long (f6 0)), .second, .val (.long (f7 0)), .second, .val (.long (f8 0)), .second, .val (.long (f9 0)), .second, .val (.ref b51)] [(.long (f9 0))])) (fun zt zk => XS.lload X65.here hx rfl (hb hby at_208) rfl zk) ?_
  refine own_st (g1 := (mkF m 212 #[.val (.long q1), .second, .val (.long q2), .second, .val (.long q3), .second, .val (.long q4), .second, .val (.long q5), .second, .val (.ref b39), .val (.long (f5 0)), .second, .val (.long (f6 0)), .second, .val (.long (f7 0)), .second, .val (.long (f8 0)), .second, .val (.long (f9 0)), .second, .val (.ref b51)] [(.ref b51), (.long (f9 0))])) (fun zt zk => XS.aload X65.here hx rfl (hb hby at_210) rfl rfl zk) ?_
  refine own_st (g1 := (mkF m 213 #[.val (.long q1), .second, .val (.long q2), .second, .val (.long q3), .second, .val (.long q4), .second, .val (.long q5), .second, .val (.ref b39), .val (.long (f5 0)), .second, .val (.long (f6 0)), .second, .val (.long (f7 0)), .second, .val (.long (f8 0)), .second, .val (.long (f9 0)), .second, .val (.ref b51)] [(.int (4 : Int32)), (.ref b51), (.long (f9 0))])) (fun zt zk => XS.iconst X65.here hx rfl (hb hby at_212) zk) ?_
  refine own_st (g1 := (mkF m 214 #[.val (.long q1), .second, .val (.long q2), .second, .val (.long q3), .second, .val (.long q4), .second, .val (.long q5), .second, .val (.ref b39), .val (.long (f5 0)), .second, .val (.long (f6 0)), .second, .val (.long (f7 0)), .second, .val (.long (f8 0)), .second, .val (.long (f9 0)), .second, .val (.ref b51)] [(.long (s9 4)), (.long (f9 0))])) (own_jld X65 hx hZ rfl V65 (j := 4) (v := (.long (s9 4))) rfl (by decide) (by decide) rfl (g := (mkF m 213 #[.val (.long q1), .second, .val (.long q2), .second, .val (.long q3), .second, .val (.long q4), .second, .val (.long q5), .second, .val (.ref b39), .val (.long (f5 0)), .second, .val (.long (f6 0)), .second, .val (.long (f7 0)), .second, .val (.long (f8 0)), .second, .val (.long (f9 0)), .second, .val (.ref b51)] [(.int (4 : Int32)), (.ref b51), (.long (f9 0))])) rfl rfl (hb hby at_213)) ?_
  refine own_st (g1 := (mkF m 215 #[.val (.long q1), .second, .val (.long q2), .second, .val (.long q3), .second, .val (.long q4), .second, .val (.long q5), .second, .val (.ref b39), .val (.long (f5 0)), .second, .val (.long (f6 0)), .second, .val (.long (f7 0)), .second, .val (.long (f8 0)), .second, .val (.long (f9 0)), .second, .val (.ref b51)] [(.int (lcmpW (f9 0) (s9 4)))])) (fun zt zk => XS.lcmp X65.here hx rfl (hb hby at_214) rfl zk) ?_
  refine own_st (g1 := (mkF m 218 #[.val (.long q1), .second, .val (.long q2), .second, .val (.long q3), .second, .val (.long q4), .second, .val (.long q5), .second, .val (.ref b39), .val (.long (f5 0)), .second, .val (.long (f6 0)), .second, .val (.long (f7 0)), .second, .val (.long (f8 0)), .second, .val (.long (f9 0)), .second, .val (.ref b51)] [])) (fun zt zk => XS.ifNo X65.here hx rfl (hb hby at_215) rfl ((if0 _ _).trans (teq ((lw_eq _ _).mpr r4)).2) zk) ?_
  refine own_st (g1 := (mkF m 219 #[.val (.long q1), .second, .val (.long q2), .second, .val (.long q3), .second, .val (.long q4), .second, .val (.long q5), .second, .val (.ref b39), .val (.long (f5 0)), .second, .val (.long (f6 0)), .second, .val (.long (f7 0)), .second, .val (.long (f8 0)), .second, .val (.long (f9 0)), .second, .val (.ref b51)] [(.int (1 : Int32))])) (fun zt zk => XS.iconst X65.here hx rfl (hb hby at_218) zk) ?_
  refine own_st (g1 := (mkF m 223 #[.val (.long q1), .second, .val (.long q2), .second, .val (.long q3), .second, .val (.long q4), .second, .val (.long q5), .second, .val (.ref b39), .val (.long (f5 0)), .second, .val (.long (f6 0)), .second, .val (.long (f7 0)), .second, .val (.long (f8 0)), .second, .val (.long (f9 0)), .second, .val (.ref b51)] [(.int (1 : Int32))])) (fun zt zk => XS.goto X65.here hx rfl (pc0 := 219) (pc' := 223) rfl (hb hby at_219) (by decide) (by decide) zk) ?_
  exact own_here X65 ⟨223, _, _, rfl, (hb hby at_223), rfl, (by decide), (by decide), ⟨rfl, R14⟩⟩
set_option maxRecDepth 65536 in
set_option maxHeartbeats 40000000 in
theorem comes_1 {Post : Tables → Env → Array Value → State → Outcome → State → Prop} (hpost : ∀ tb e args s v u, (limb_1_1.after args s (.returned v) u = true ∧ limb_1_2.after args s (.returned v) u = true ∧ True) → FrameEnd s (.returned v) u (Jvm.fieldLocs frame_1_writes args s ++ Jvm.arrayLocs frame_1_arrays args s ++ Jvm.staticLocs frame_1_statics s) 16 128 → Post tb e args s (.returned v) u) :
    ArmFor flags0 classFile x code maxLocals ret World_1 tables_1 room_1 Calls_1 rest_1 Pre_1 Post := by
  intro l hfl _ _ p e ha hc hk s m args below hf hA hF happ hP
  obtain ⟨hcalls, hrest, hpre⟩ := hP
  obtain ⟨-, -, -, hnamed, -, -, -, hat⟩ := (Spec.applies_iff hf).mp happ
  obtain ⟨hg, hn⟩ := and_e (Cond.before_iff.mp (show (Jvm.Cond.and given_1 narrow_1).before args s = true from hpre))
  obtain ⟨gc, g0⟩ := and_e hg
  obtain ⟨a0, g1⟩ := and_e g0
  obtain ⟨a1, g2⟩ := and_e g1
  obtain ⟨a2, g3⟩ := and_e g2
  obtain ⟨a3, g4⟩ := and_e g3
  have a4 := g4
  obtain ⟨w0, w1, w2, w3, w4, rfl⟩ : ∃ w0 w1 w2 w3 w4 : Value, args = #[w0, w1, w2, w3, w4] := by
    have hs : args.size = 5 := by simpa [Cond.value, given_1] using gc
    obtain ⟨L⟩ := args
    match L, hs with
    | [w0, w1, w2, w3, w4], _ => exact ⟨w0, w1, w2, w3, w4, rfl⟩
  have hw := fun d (hd : d ∈ tables_1) => atoms_spec (ws := Jvm.Cond.code x code maxLocals ret :: tables_1) hat d (List.mem_cons_of_mem _ hd)
  obtain ⟨i0, ei0⟩ := isL_v a0
  obtain rfl : w0 = (.long i0) := Option.some.inj ei0
  obtain ⟨i1, ei1⟩ := isL_v a1
  obtain rfl : w1 = (.long i1) := Option.some.inj ei1
  obtain ⟨i2, ei2⟩ := isL_v a2
  obtain rfl : w2 = (.long i2) := Option.some.inj ei2
  obtain ⟨i3, ei3⟩ := isL_v a3
  obtain rfl : w3 = (.long i3) := Option.some.inj ei3
  obtain ⟨i4, ei4⟩ := isL_v a4
  obtain rfl : w4 = (.long i4) := Option.some.inj ei4
  obtain ⟨n, o, h1, h2, h3, _, L, rfl, ⟨rfl, N⟩, hq⟩ := rm0 l s _ hw tables_1 i0 i1 i2 i3 i4 s.heap s.heap.size (Nat.le_refl _) p e ha hc hk s m _ below hf ((Spec.applies_iff_loose hf).mp happ).1 ⟨rfl, State.Warmed39.refl s, rfl⟩ trivial
  refine ⟨n, _, h1, h2, h3, hpost _ _ _ _ _ _ ⟨Cond.after_iff.mpr rfl, Cond.after_iff.mpr (eq_i res_at (Term.int_eval (1)) rfl), trivial⟩ ⟨hq.1, hq.2.1, (hq.2.2.sift fun y hy => Or.inr (N y hy)).mono (by decide) (by decide)⟩⟩
theorem main_1_1 : Claimed_1_1 := comes_1 fun _ _ _ _ _ _ h hF => ⟨h.1, hF⟩
theorem main_1_2 : Claimed_1_2 := comes_1 fun _ _ _ _ _ _ h hF => ⟨h.2.1, hF⟩
end Jvm.Pilot.@@N@@
namespace Jvm.Pilot.@@N@@
open Jvm Jvm.ClassFile Sem Op Lib Jvm.Free Jvm.Stand Jvm.Pilot.@@N@@.Jvm.D
/-! MADE BY PROGRAM (witnessworld.py) out of the Statement's table words and the real class files: 11 classes; the members and pool entries that the words name. The judged class is class 1, her method 1. -/
namespace start1
open Jvm.ClassFile
def u (s : String) : CpInfo := .utf8 (stringToUtf16 s)
/-- a pool by its gaps: so many unusable entries, then the entry; so many at the end -/
def gap : Nat → List CpInfo → List CpInfo
  | 0, r => r
  | n + 1, r => .unusable :: gap n r
def poolList (es : List (Nat × CpInfo)) (last : Nat) : List CpInfo := es.foldr (fun e r => gap e.1 (e.2 :: r)) (gap last [])
def pool (es : List (Nat × CpInfo)) (last : Nat) : Array CpInfo := ⟨poolList es last⟩
def fileOf (pool : Array CpInfo) (this : Nat) (attrs : Array Attribute := #[]) (ms : Array MethodInfo := #[]) (fl : Nat := 33) (sup : Nat := 0) (ifs : Array Nat := #[]) (fds : Array FieldInfo := #[]) : ClassFile where
  minorVersion := 0
  majorVersion := 65
  constantPool := pool
  accessFlags := fl
  thisClass := this
  superClass := sup
  interfaces := ifs
  fields := fds
  methods := ms
  attributes := attrs
def plain (name : String) (sup : Option ClassId) : Class where
  name := name
  kind := .ordinary
  loader := none
  accessFlags := 33
  super := sup
  interfaces := #[]
  cf := none
  fields := #[]
  methods := #[]
  instanceTypes := #[]
  staticTypes := #[]
  resolved := #[]
  callSites := []
  init := .initialized
  statics := none
  mirror := none

def pool0 : Array CpInfo := pool [(5, u "<init>"), (0, u "()V"), (1, .class_ 10), (1, u "java/lang/Object")] 113

def k0c0 : Code := { maxStack := 0, maxLocals := 1, code := object_method_1_code, exceptionTable := #[], attributes := #[] }
def k0m0 : Method := { name := "<init>", desc := "()V", sig := { parameters := [], returnType := none }, accessFlags := 1, code := some k0c0 }
/-- java/lang/Object -/
def k0 : Class := { plain "java/lang/Object" none with
  accessFlags := 33
  interfaces := #[]
  cf := some (fileOf pool0 8 #[] #[{ accessFlags := 1, nameIndex := 5, descriptorIndex := 6, attributes := #[] }] 33 0 #[] #[])
  fields := #[]
  methods := #[k0m0]
  instanceTypes := #[]
  staticTypes := #[]
  resolved := Array.replicate 124 none
  statics := none }

def pool1 : Array CpInfo := pool [(2, .class_ 4), (0, .nameAndType 5 6), (0, u "java/lang/Object"), (0, u "<init>"), (0, u "()V"), (0, .class_ 8), (0, u "com/example/libperturb/libperturb/solver/MinHeap"), (0, .methodref 7 3), (0, .methodref 7 11), (0, .nameAndType 12 13), (0, u "push"), (0, u "(J)V"), (0, .methodref 7 15), (0, .nameAndType 16 17), (0, u "pop"), (0, u "()J"), (0, .methodref 19 20), (0, .class_ 21), (0, .nameAndType 22 23), (0, u "com/example/libperturb/libperturb/solver/MinHeapPopPinLaw"), (0, u "cs"), (0, u "([JII)V"), (2, u "law"), (0, u "(JJJJJ)Z")] 5

def k1m0 : Method := { name := "<init>", desc := "()V", sig := { parameters := [], returnType := none }, accessFlags := 1, code := none }
def k1c1 : Code := { maxStack := 5, maxLocals := 22, code := code, exceptionTable := #[], attributes := #[] }
def k1m1 : Method := { name := "law", desc := "(JJJJJ)Z", sig := { parameters := [.long, .long, .long, .long, .long], returnType := some .boolean }, accessFlags := 9, code := some k1c1 }
def k1c2 : Code := { maxStack := 4, maxLocals := 5, code := method_3_code, exceptionTable := #[], attributes := #[] }
def k1m2 : Method := { name := "cs", desc := "([JII)V", sig := { parameters := [(.array .long), .int, .int], returnType := none }, accessFlags := 10, code := some k1c2 }
/-- com/example/libperturb/libperturb/solver/MinHeapPopPinLaw -/
def k1 : Class := { plain "com/example/libperturb/libperturb/solver/MinHeapPopPinLaw" (some 0) with
  accessFlags := 49
  interfaces := #[]
  cf := some (fileOf pool1 19 #[] #[{ accessFlags := 1, nameIndex := 5, descriptorIndex := 6, attributes := #[] }, { accessFlags := 9, nameIndex := 26, descriptorIndex := 27, attributes := #[] }, { accessFlags := 10, nameIndex := 22, descriptorIndex := 23, attributes := #[] }] 49 2 #[] #[])
  fields := #[]
  methods := #[k1m0, k1m1, k1m2]
  instanceTypes := #[]
  staticTypes := #[]
  resolved := Array.replicate 33 none
  statics := none }

def pool2 : Array CpInfo := pool [(1, .methodref 2 3), (0, .class_ 4), (0, .nameAndType 5 6), (0, u "java/lang/Object"), (0, u "<init>"), (0, u "()V"), (0, .fieldref 8 9), (0, .class_ 10), (0, .nameAndType 11 12), (0, u "com/example/libperturb/libperturb/solver/MinHeap"), (0, u "keys"), (0, u "[J"), (0, .fieldref 8 14), (0, .nameAndType 15 16), (0, u "size"), (0, u "I"), (11, u "push"), (0, u "(J)V"), (0, u "pop"), (0, u "()J")] 2

def k2c0 : Code := { maxStack := 2, maxLocals := 1, code := prog_48_method_1_code, exceptionTable := #[], attributes := #[] }
def k2m0 : Method := { name := "<init>", desc := "()V", sig := { parameters := [], returnType := none }, accessFlags := 0, code := some k2c0 }
def k2c1 : Code := { maxStack := 5, maxLocals := 4, code := prog_48_method_3_code, exceptionTable := #[], attributes := #[] }
def k2m1 : Method := { name := "push", desc := "(J)V", sig := { parameters := [.long], returnType := none }, accessFlags := 0, code := some k2c1 }
def k2c2 : Code := { maxStack := 4, maxLocals := 7, code := prog_48_method_4_code, exceptionTable := #[], attributes := #[] }
def k2m2 : Method := { name := "pop", desc := "()J", sig := { parameters := [], returnType := some .long }, accessFlags := 0, code := some k2c2 }
/-- com/example/libperturb/libperturb/solver/MinHeap -/
def k2 : Class := { plain "com/example/libperturb/libperturb/solver/MinHeap" (some 0) with
  accessFlags := 32
  interfaces := #[]
  cf := some (fileOf pool2 8 #[] #[{ accessFlags := 0, nameIndex := 5, descriptorIndex := 6, attributes := #[] }, { accessFlags := 0, nameIndex := 28, descriptorIndex := 29, attributes := #[] }, { accessFlags := 0, nameIndex := 30, descriptorIndex := 31, attributes := #[] }] 32 2 #[] #[{ accessFlags := 2, nameIndex := 11, descriptorIndex := 12, attributes := #[] }, { accessFlags := 2, nameIndex := 15, descriptorIndex := 16, attributes := #[] }])
  fields := #[{ name := "keys", type := (.array .long), accessFlags := 2, slot := 0, constantValue := 0 }, { name := "size", type := .int, accessFlags := 2, slot := 1, constantValue := 0 }]
  methods := #[k2m0, k2m1, k2m2]
  instanceTypes := #[(.array .long), .int]
  staticTypes := #[]
  resolved := Array.replicate 34 none
  statics := none }

def pool3 : Array CpInfo := pool [(1, u "java/lang/Cloneable"), (0, .class_ 1), (0, u "java/lang/Object"), (0, .class_ 3)] 3

/-- java/lang/Cloneable -/
def k3 : Class := { plain "java/lang/Cloneable" (some 0) with
  accessFlags := 1537
  interfaces := #[]
  cf := some (fileOf pool3 2 #[] #[] 1537 4 #[] #[])
  fields := #[]
  methods := #[]
  instanceTypes := #[]
  staticTypes := #[]
  resolved := Array.replicate 8 none
  statics := none }

def pool4 : Array CpInfo := pool [(1, u "java/io/Serializable"), (0, .class_ 1), (0, u "java/lang/Object"), (0, .class_ 3)] 3

/-- java/io/Serializable -/
def k4 : Class := { plain "java/io/Serializable" (some 0) with
  accessFlags := 1537
  interfaces := #[]
  cf := some (fileOf pool4 2 #[] #[] 1537 4 #[] #[])
  fields := #[]
  methods := #[]
  instanceTypes := #[]
  staticTypes := #[]
  resolved := Array.replicate 8 none
  statics := none }

/-- the primitive byte -/
def k5 : Class := { plain "byte" none with kind := .primitive 'B', accessFlags := 0x411 }
/-- [B -/
def k6 : Class := { plain "[B" (some 0) with kind := .array 5 .byte, interfaces := #[3, 4], accessFlags := 1041 }

/-- the primitive int -/
def k7 : Class := { plain "int" none with kind := .primitive 'I', accessFlags := 0x411 }
/-- [I -/
def k8 : Class := { plain "[I" (some 0) with kind := .array 7 .int, interfaces := #[3, 4], accessFlags := 1041 }

/-- the primitive long -/
def k9 : Class := { plain "long" none with kind := .primitive 'J', accessFlags := 0x411 }
/-- [J -/
def k10 : Class := { plain "[J" (some 0) with kind := .array 9 .long, interfaces := #[3, 4], accessFlags := 1041 }

def heap : Heap := #[]
def classes : Array Class := #[k0, k1, k2, k3, k4, k5, k6, k7, k8, k9, k10]
def interned : List (Array UInt16 × Addr) := []
def slotsUsed : Nat := 0
def theMethod : MethodId := ⟨1, 1⟩
def args0 : Array Value := #[.long 5, .long 3, .long 4, .long 1, .long 2]
def aboutOver (below : List Frame) : State where
  vm := { classes := classes, interned := interned.toArray }
  heap := heap
  slotsUsed := slotsUsed
  threads := #[{ frames := .invoking theMethod args0 :: below }]
def below0 : List Frame := [.native { method := ⟨0, 0⟩, args := #[] }]
def about1 : State := aboutOver below0
def p0 : Program := .bare "" "" ""
def e0 : Env := launch0.env 0 0 0
theorem w_frames : about1.frames = Frame.invoking theMethod args0 :: below0 := rfl
set_option maxRecDepth 65536 in
theorem w_args : argsFit about1.vm theMethod args0 = true := by decide +kernel
set_option maxRecDepth 65536 in
theorem w_heap : heapFits about1 = true := by decide +kernel
set_option maxRecDepth 65536 in
theorem w_runnable : about1.curStatus? = some .runnable := by decide +kernel
set_option maxRecDepth 65536 in
theorem w_alone : about1.alone = true := by decide +kernel
set_option maxRecDepth 65536 in
theorem w_named : about1.methodNamed? x = some theMethod := by decide +kernel
set_option maxRecDepth 65536 in
theorem w_hears : about1.hears theMethod below0 = true := by decide +kernel
set_option maxRecDepth 65536 in
theorem w_ripe : about1.ripe theMethod args0 below0 = true := by decide +kernel
theorem w_running : about1.status = .running := rfl
set_option maxRecDepth 65536 in
theorem w_room : about1.hasRoom e0.platform room_1 = true :=
  launch0.hasRoom_least _ room_1 (by decide +kernel) (by decide +kernel) (by decide +kernel) (by decide +kernel) (by decide +kernel) (by decide +kernel)
theorem allAtoms_all (ts : List Jvm.Cond) (a : Array Jvm.Value) (st : Jvm.State) : (allAtoms ts).before a st = ts.all (fun c => c.before a st) := by
  induction ts with
  | nil => rfl
  | cons c t ih =>
    show (Jvm.Cond.and c (allAtoms t)).before a st = _
    rw [Jvm.Cond.before_and, ih, List.all_cons]
def words1 : List Jvm.Cond := Jvm.Cond.code x code maxLocals ret :: tables_1
/-- a 'code' word, met by the world's own term for the bytes: nothing is compared byte by byte -/
theorem code_word {y : MethodName} {bytes : ByteArray} {mx : Nat} {rt : Option FieldType} {a : Array Value} {s : State} {m : MethodId} {meth : Method} {c : Code} (h1 : s.methodNamed? y = some m) (h2 : s.vm.method? m = some meth) (h3 : meth.code = some c) (h4 : c.code = bytes)
    (h5 : (c.maxLocals == mx && c.exceptionTable.isEmpty && decide (c.maxStack ≤ mostOperands) && decide (meth.sig.returnType = rt) && !meth.locks && decide (parseMethodDescriptor y.desc = some meth.sig)) = true) : (Jvm.Cond.code y bytes mx rt).before a s = true := by
  simp only [Bool.and_eq_true, beq_iff_eq, Bool.not_eq_true', decide_eq_true_eq] at h5
  obtain ⟨⟨⟨⟨⟨g1, g2⟩, g3⟩, g4⟩, g5⟩, g6⟩ := h5
  simp [Cond.before, Cond.holds, Cond.value, h1, h2, h3, h4, g1, g2, g3, g4, g5, g6]
def isCode : Jvm.Cond → Bool
  | .code _ _ _ _ => true
  | _ => false
theorem all_split {L : List Jvm.Cond} {P : Jvm.Cond → Bool} (h1 : L.all (fun c => isCode c || P c) = true) (h2 : ∀ c ∈ L.filter isCode, P c = true) : L.all P = true := by
  refine List.all_eq_true.mpr fun c hc => ?_
  have h := List.all_eq_true.mp h1 c hc
  rcases Bool.eq_false_or_eq_true (isCode c) with hi | hi
  · exact h2 c (List.mem_filter.mpr ⟨hc, hi⟩)
  · simpa [hi] using h
set_option maxRecDepth 65536 in
theorem w_c0 : (Jvm.Cond.code x code maxLocals ret).before args0 about1 = true := code_word (m := ⟨1, 1⟩) (meth := k1m1) (c := k1c1) (by decide +kernel) rfl rfl rfl (by decide +kernel)
set_option maxRecDepth 65536 in
theorem w_c1 : (Jvm.Cond.code ({ cls := "com/example/libperturb/libperturb/solver/MinHeap", name := "<init>", desc := "()V" } : Jvm.MethodName) prog_48_method_1_code (1 : Nat) (Option.none : Option Jvm.ClassFile.FieldType)).before args0 about1 = true := code_word (m := ⟨2, 0⟩) (meth := k2m0) (c := k2c0) (by decide +kernel) rfl rfl rfl (by decide +kernel)
set_option maxRecDepth 65536 in
theorem w_c2 : (Jvm.Cond.code ({ cls := "java/lang/Object", name := "<init>", desc := "()V" } : Jvm.MethodName) object_method_1_code (1 : Nat) (Option.none : Option Jvm.ClassFile.FieldType)).before args0 about1 = true := code_word (m := ⟨0, 0⟩) (meth := k0m0) (c := k0c0) (by decide +kernel) rfl rfl rfl (by decide +kernel)
set_option maxRecDepth 65536 in
theorem w_c3 : (Jvm.Cond.code ({ cls := "com/example/libperturb/libperturb/solver/MinHeap", name := "push", desc := "(J)V" } : Jvm.MethodName) prog_48_method_3_code (4 : Nat) (Option.none : Option Jvm.ClassFile.FieldType)).before args0 about1 = true := code_word (m := ⟨2, 1⟩) (meth := k2m1) (c := k2c1) (by decide +kernel) rfl rfl rfl (by decide +kernel)
set_option maxRecDepth 65536 in
theorem w_c4 : (Jvm.Cond.code ({ cls := "com/example/libperturb/libperturb/solver/MinHeap", name := "pop", desc := "()J" } : Jvm.MethodName) prog_48_method_4_code (7 : Nat) (Option.some Jvm.ClassFile.FieldType.long)).before args0 about1 = true := code_word (m := ⟨2, 2⟩) (meth := k2m2) (c := k2c2) (by decide +kernel) rfl rfl rfl (by decide +kernel)
set_option maxRecDepth 65536 in
theorem w_c5 : (Jvm.Cond.code ({ cls := "com/example/libperturb/libperturb/solver/MinHeapPopPinLaw", name := "cs", desc := "([JII)V" } : Jvm.MethodName) method_3_code (5 : Nat) (Option.none : Option Jvm.ClassFile.FieldType)).before args0 about1 = true := code_word (m := ⟨1, 2⟩) (meth := k1m2) (c := k1c2) (by decide +kernel) rfl rfl rfl (by decide +kernel)
def codes1 : List Jvm.Cond := [Jvm.Cond.code x code maxLocals ret, Jvm.Cond.code ({ cls := "com/example/libperturb/libperturb/solver/MinHeap", name := "<init>", desc := "()V" } : Jvm.MethodName) prog_48_method_1_code (1 : Nat) (Option.none : Option Jvm.ClassFile.FieldType), Jvm.Cond.code ({ cls := "java/lang/Object", name := "<init>", desc := "()V" } : Jvm.MethodName) object_method_1_code (1 : Nat) (Option.none : Option Jvm.ClassFile.FieldType), Jvm.Cond.code ({ cls := "com/example/libperturb/libperturb/solver/MinHeap", name := "push", desc := "(J)V" } : Jvm.MethodName) prog_48_method_3_code (4 : Nat) (Option.none : Option Jvm.ClassFile.FieldType), Jvm.Cond.code ({ cls := "com/example/libperturb/libperturb/solver/MinHeap", name := "pop", desc := "()J" } : Jvm.MethodName) prog_48_method_4_code (7 : Nat) (Option.some Jvm.ClassFile.FieldType.long), Jvm.Cond.code ({ cls := "com/example/libperturb/libperturb/solver/MinHeapPopPinLaw", name := "cs", desc := "([JII)V" } : Jvm.MethodName) method_3_code (5 : Nat) (Option.none : Option Jvm.ClassFile.FieldType)]
set_option maxRecDepth 65536 in
theorem codes_eq : words1.filter isCode = codes1 := rfl
theorem w_codes : ∀ c ∈ words1.filter isCode, c.before args0 about1 = true := by
  rw [codes_eq]
  intro c hc
  simp only [codes1, List.mem_cons, List.not_mem_nil, or_false] at hc
  rcases hc with rfl | rfl | rfl | rfl | rfl | rfl
  · exact w_c0
  · exact w_c1
  · exact w_c2
  · exact w_c3
  · exact w_c4
  · exact w_c5
set_option maxRecDepth 65536 in
theorem w_t1 : (words1.take 24).all (fun c => isCode c || c.before args0 about1) = true := by decide +kernel
set_option maxRecDepth 65536 in
theorem w_t2 : (words1.drop 24).all (fun c => isCode c || c.before args0 about1) = true := by decide +kernel
theorem w_tables : (allAtoms (Jvm.Cond.code x code maxLocals ret :: tables_1)).before args0 about1 = true := by
  rw [allAtoms_all]
  show words1.all (fun c => c.before args0 about1) = true
  refine all_split ?_ w_codes
  rw [← List.take_append_drop 24 words1, List.all_append, w_t1, w_t2]
  rfl
set_option maxRecDepth 65536 in
theorem w_case : (Jvm.Cond.and given_1 narrow_1).before args0 about1 = true := by decide +kernel
theorem w_applies : (headSpec (Jvm.Cond.code x code maxLocals ret :: tables_1) room_1).applies x e0.platform about1 = true :=
  (Spec.applies_iff w_frames).mpr ⟨w_running, w_runnable, w_alone, w_named, w_hears, w_ripe, w_room, w_tables⟩
theorem atStart : AtStart classFile x code maxLocals ret World_1 tables_1 room_1 Calls_1 rest_1 Pre_1 launch0 p0 e0 about1 theMethod args0 below0 :=
  ⟨lists_1, trivial, launch0.admits_env _ _ _, launch0.least_env, fairChoices_fair.cas, fairChoices_fair.clock, w_frames, w_args, w_heap, w_applies, trivial, trivial, w_case⟩
end start1
theorem witness_1 : WitnessClaimed_1 := ⟨start1.p0, start1.e0, start1.about1, start1.theMethod, start1.args0, start1.below0, start1.atStart⟩
end Jvm.Pilot.@@N@@
