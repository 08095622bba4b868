import JvmDerived
import JvmDerived.Pilot.@@N@@Statement
import JvmDerived.Pilot.@@N@@Code
set_option linter.unusedVariables false
set_option linter.unusedSimpArgs false
namespace Jvm.Pilot.@@N@@
open Jvm Jvm.ClassFile Sem Op Lib Jvm.Free Jvm.Stand Jvm.LawKit Jvm.RoadKit Bundle Jvm.Pilot.@@N@@.Jvm.D
section Own
variable {p : Program} {l : Launch} {e : Env} {R : Room} {s : State} {m : MethodId} {args : Array Value} {below : List Frame} {meth : Method} {c : Code} {T T0 T1 : State} {g0 g1 : JFrame} {locs : List Loc} {cells slots : Nat} {Z : State} {h h' h0 : Heap} {a b : Nat}
/-- the run goes from T0 with the frame g0 to a state of which P holds -/
def Goes (p : Program) (l : Launch) (e : Env) (R : Room) (s : State) (m : MethodId) (args : Array Value) (below : List Frame) (meth : Method) (c : Code) (T0 : State) (g0 : JFrame) (P : State → List Loc → Nat → Nat → JFrame → Prop) : Prop :=
  ∃ T' L' k' n' g', Stand p l e R s m args below meth c T' L' k' n' ∧ P T' L' k' n' g' ∧ ∀ t, Steps p.tables e below (T'.setTop g') t → Steps p.tables e below (T0.setTop g0) t
variable {P Q : State → List Loc → Nat → Nat → JFrame → Prop}
theorem own_st (st : ∀ t, Steps p.tables e below (T1.setTop g1) t → Steps p.tables e below (T0.setTop g0) t) (k : Goes p l e R s m args below meth c T1 g1 P) : Goes p l e R s m args below meth c T0 g0 P := by
  obtain ⟨T', L', k', n', g', X, hP, q⟩ := k
  exact ⟨T', L', k', n', g', X, hP, fun t r => st t (q t r)⟩
theorem own_here (X : Stand p l e R s m args below meth c T0 locs cells slots) (hP : P T0 locs cells slots g0) : Goes p l e R s m args below meth c T0 g0 P :=
  ⟨T0, locs, cells, slots, g0, X, hP, fun _ r => r⟩
theorem own_bind (k : Goes p l e R s m args below meth c T0 g0 P) (q : ∀ T' L' k' n' g', Stand p l e R s m args below meth c T' L' k' n' → P T' L' k' n' g' → Goes p l e R s m args below meth c T' g' Q) : Goes p l e R s m args below meth c T0 g0 Q := by
  obtain ⟨T', L', k', n', g', X, hP, st⟩ := k
  exact own_st st (q T' L' k' n' g' X hP)
theorem own_stand {L L' : List Loc} {k k' n n' : Nat} (X : Stand p l e R s m args below meth c T L k n) (h1 : L = L') (h2 : k = k') (h3 : n = n') : Stand p l e R s m args below meth c T L' k' n' := by subst h1 h2 h3; exact X
theorem own_cast (q : g0 = g1) (k : Goes p l e R s m args below meth c T0 g1 P) : Goes p l e R s m args below meth c T0 g0 P := by subst q; exact k
/-- the frame stands before a return of nothing -/
def EndV (m : MethodId) (c : Code) (K N : Nat) (Q : Option Value → Heap → List Loc → Prop) (T : State) (L : List Loc) (k n : Nat) (g : JFrame) : Prop := ∃ pc Ls, g = mkF m pc Ls [] ∧ decode c.code pc = .ok (.return_, 1) ∧ k ≤ K ∧ n ≤ N ∧ Q none T.heap L
/-- the frame stands before the return of an int of the kind t -/
def EndN (m : MethodId) (c : Code) (t : FieldType) (K N : Nat) (Q : Option Value → Heap → List Loc → Prop) (T : State) (L : List Loc) (k n : Nat) (g : JFrame) : Prop := ∃ pc Ls z, g = mkF m pc Ls [.int z] ∧ decode c.code pc = .ok (.ireturn, 1) ∧ narrow t (.int z) = .int z ∧ k ≤ K ∧ n ≤ N ∧ Q (some (.int z)) T.heap L
def EndJ (m : MethodId) (c : Code) (K N : Nat) (Q : Option Value → Heap → List Loc → Prop) (T : State) (L : List Loc) (k n : Nat) (g : JFrame) : Prop := ∃ pc Ls z, g = mkF m pc Ls [.long z] ∧ decode c.code pc = .ok (.lreturn, 1) ∧ k ≤ K ∧ n ≤ N ∧ Q (some (.long z)) T.heap L
def EndA (m : MethodId) (c : Code) (K N : Nat) (Q : Option Value → Heap → List Loc → Prop) (T : State) (L : List Loc) (k n : Nat) (g : JFrame) : Prop := ∃ pc Ls z, g = mkF m pc Ls [.ref z] ∧ decode c.code pc = .ok (.areturn, 1) ∧ k ≤ K ∧ n ≤ N ∧ Q (some (.ref z)) T.heap L
theorem own_finV {K N : Nat} {Q : Option Value → Heap → List Loc → Prop} (hx : p.tables.exec = Jvm.exec) (hret : meth.sig.returnType = none) (hlk : meth.locks = false) (G : Goes p l e R s m args below meth c T0 g0 (EndV m c K N Q)) :
    ∃ s₂ o, Steps p.tables e below (T0.setTop g0) s₂ ∧ s₂.status = .running ∧ Ended s₂ below o ∧ ∃ v L, o = .returned v ∧ Q v s₂.heap L ∧ FrameEnd s o s₂ L K N := by
  obtain ⟨T', L', k', n', g', X, ⟨pc, Ls, rfl, hd, hk, hn, hQ⟩, st⟩ := G
  obtain ⟨fs, hr, hrun, hended, hW, hsame⟩ := X.leave (v := none) (fun _ => rfl) hlk
  exact ⟨_, _, st _ (X.returnOut hx hret hd hr), hrun, hended, _, _, rfl, hQ, ⟨_, rfl⟩, hW, hsame.mono hk hn⟩
theorem own_finN {t : FieldType} {K N : Nat} {Q : Option Value → Heap → List Loc → Prop} (hti : t = .int ∨ t = .boolean ∨ t = .byte ∨ t = .char ∨ t = .short) (hx : p.tables.exec = Jvm.exec) (hret : meth.sig.returnType = some t) (hlk : meth.locks = false) (G : Goes p l e R s m args below meth c T0 g0 (EndN m c t K N Q)) :
    ∃ s₂ o, Steps p.tables e below (T0.setTop g0) s₂ ∧ s₂.status = .running ∧ Ended s₂ below o ∧ ∃ v L, o = .returned v ∧ Q v s₂.heap L ∧ FrameEnd s o s₂ L K N := by
  obtain ⟨T', L', k', n', g', X, ⟨pc, Ls, z, rfl, hd, hz, hk, hn, hQ⟩, st⟩ := G
  obtain ⟨fs, hr, hrun, hended, hW, hsame⟩ := X.leave (v := some (.int z)) (fun h => by rw [hret] at h; cases h) hlk
  exact ⟨_, _, st _ (X.ireturnOut hx hret hz hti hd hr), hrun, hended, _, _, rfl, hQ, ⟨_, rfl⟩, hW, hsame.mono hk hn⟩
theorem own_finJ {K N : Nat} {Q : Option Value → Heap → List Loc → Prop} (hx : p.tables.exec = Jvm.exec) (hret : meth.sig.returnType = some .long) (hlk : meth.locks = false) (G : Goes p l e R s m args below meth c T0 g0 (EndJ m c K N Q)) :
    ∃ s₂ o, Steps p.tables e below (T0.setTop g0) s₂ ∧ s₂.status = .running ∧ Ended s₂ below o ∧ ∃ v L, o = .returned v ∧ Q v s₂.heap L ∧ FrameEnd s o s₂ L K N := by
  obtain ⟨T', L', k', n', g', X, ⟨pc, Ls, z, rfl, hd, hk, hn, hQ⟩, st⟩ := G
  obtain ⟨fs, hr, hrun, hended, hW, hsame⟩ := X.leave (v := some (.long z)) (fun h => by rw [hret] at h; cases h) hlk
  exact ⟨_, _, st _ (X.lreturnOut hx hret hd hr), hrun, hended, _, _, rfl, hQ, ⟨_, rfl⟩, hW, hsame.mono hk hn⟩
theorem own_finA {t : FieldType} {K N : Nat} {Q : Option Value → Heap → List Loc → Prop} (ht : t.isReference = true) (hx : p.tables.exec = Jvm.exec) (hret : meth.sig.returnType = some t) (hlk : meth.locks = false) (G : Goes p l e R s m args below meth c T0 g0 (EndA m c K N Q)) :
    ∃ s₂ o, Steps p.tables e below (T0.setTop g0) s₂ ∧ s₂.status = .running ∧ Ended s₂ below o ∧ ∃ v L, o = .returned v ∧ Q v s₂.heap L ∧ FrameEnd s o s₂ L K N := by
  obtain ⟨T', L', k', n', g', X, ⟨pc, Ls, z, rfl, hd, hk, hn, hQ⟩, st⟩ := G
  obtain ⟨fs, hr, hrun, hended, hW, hsame⟩ := X.leave (v := some (.ref z)) (fun h => by rw [hret] at h; cases h) hlk
  exact ⟨_, _, st _ (X.areturnOut hx rfl hret ht hd hr), hrun, hended, _, _, rfl, hQ, ⟨_, rfl⟩, hW, hsame.mono hk hn⟩
/-- a method's contract -/
abbrev Meets (l : Launch) (Z : State) (y : MethodName) (bytes : ByteArray) (maxL : Nat) (ret : Option FieldType) (ws : List Jvm.Cond) (rm : Room) (A : Array Value) (h0 : Heap) (K N : Nat) (Q : Option Value → Heap → List Loc → Prop) : Prop :=
  MetFree l y (head1 (Jvm.Cond.code y bytes maxL ret :: ws) rm) (fun a U => a = A ∧ Z.Warmed39 U.vm ∧ U.heap = h0) (fun _ _ _ _ _ => True) (fun _ U o U' => ∃ v L, o = .returned v ∧ Q v U'.heap L ∧ FrameEnd U o U' L K N)
theorem own_meets {y : MethodName} {bytes : ByteArray} {maxL K N : Nat} {ret : Option FieldType} {ws : List Jvm.Cond} {rm : Room} {A : Array Value} {Q : Option Value → Heap → List Loc → Prop} (hp : plainFor y = true)
    (body : ∀ p e s m below meth c s₁, p.tables.exec = Jvm.exec → Z.Warmed39 s.vm → c.code = bytes → c.maxLocals = maxL → s.vm.findClass y.cls = some m.cls → meth.name = y.name → meth.sig.returnType = ret → meth.locks = false → Stand p l e rm s m A below meth c s₁ [] 0 0 → s₁.heap = h0 →
      ∃ s₂ o, Steps p.tables e below (s₁.setTop (entryFrame m A maxL)) s₂ ∧ s₂.status = .running ∧ Ended s₂ below o ∧ ∃ v L, o = .returned v ∧ Q v s₂.heap L ∧ FrameEnd s o s₂ L K N) : Meets l Z y bytes maxL ret ws rm A h0 K N Q := by
  refine MetFree.of_bodySF hp hisR ?_
  intro p e s m args below meth c s₁ Bd hml0 hP hK
  obtain ⟨rfl, hZ, hh⟩ := hP
  exact body p e s m below meth c s₁ Bd.exec hZ Bd.bytes hml0 (findClass_of_methodNamed Bd.named) (name_of_methodNamed Bd.named Bd.method).1 Bd.returns Bd.notSynchronized (Stand.of_body Bd) (by rw [← hh, Bd.state]; rfl)
theorem own_nin {x y : Nat} {L : List Nat} (q : x ≠ y) (r : x ∉ L) : x ∉ y :: L := ninS q r
theorem own_fl {C n d : String} {v : Value} (F : Fld Z h a C n d v) : @LT.lt Nat _ a h.size := F.lt
theorem own_el {C : String} (F : Exa Z h a C) : @LT.lt Nat _ a h.size := F.lt
/-- the array at a holds the n values f 0, f 1 .. -/
def VA (Z : State) (h : Heap) (a : Nat) (ty : FieldType) (n : Nat) (f : Nat → Value) : Prop := ∃ cl : Cell, Arr Z h a cl ty ∧ cl.slots.size = n ∧ ∀ j, j < n → cl.slots[j]? = some (f j)
variable {ty : FieldType} {n : Nat} {f : Nat → Value}
theorem VA.lt (A : VA Z h a ty n f) : @LT.lt Nat _ a h.size := by obtain ⟨cl, A, -⟩ := A; exact A.lt
theorem VA.ext (A : VA Z h a ty n f) (E : Ext h h') : VA Z h' a ty n f := by obtain ⟨cl, A, r⟩ := A; exact ⟨cl, A.ext E, r⟩
theorem VA.other {sl : Nat} {v : Value} (A : VA Z h b ty n f) (W : Wr h h' a sl v) (q : b ≠ a) : VA Z h' b ty n f := by obtain ⟨cl, A, r⟩ := A; exact ⟨cl, A.other W q, r⟩
theorem VA.keep {ws : List Addr} (A : VA Z h a ty n f) (K : Keep h h' ws) (q : a ∉ ws) : VA Z h' a ty n f := by obtain ⟨cl, A, r⟩ := A; exact ⟨cl, ⟨K.2.1 a cl A.1 q, A.2⟩, r⟩
theorem VA.congr {f' : Nat → Value} (A : VA Z h a ty n f) (q : ∀ j, j < n → f j = f' j) : VA Z h a ty n f' := by obtain ⟨cl, A, S, H⟩ := A; exact ⟨cl, A, S, fun j hj => by rw [← q j hj]; exact H j hj⟩
theorem own_slots (cl : Cell) (i : Nat) (v : Value) : (cl.setSlot i v).slots = cl.slots.setIfInBounds i v := rfl
theorem VA.set {i : Nat} {v : Value} (A : VA Z h a ty n f) (W : Wr h h' a i v) : VA Z h' a ty n (fun j => if j = i then v else f j) := by
  obtain ⟨cl, A, S, H⟩ := A
  refine ⟨_, A.same W, by rw [sz_set]; exact S, fun j hj => ?_⟩
  rw [own_slots]
  show _ = some (if j = i then v else f j)
  by_cases u : i = j
  · subst u; rw [if_pos rfl, Array.getElem?_setIfInBounds_self_of_lt (by rw [S]; exact hj)]
  · rw [if_neg (fun q => u q.symm), Array.getElem?_setIfInBounds_ne u]; exact H j hj
theorem own_newslots (k : ClassId) (ty : FieldType) (z : Int32) : (newA k ty z).slots = Array.replicate z.toNatClampNeg (defaultValue ty) := rfl
theorem VA.new {k : ClassId} {z : Int32} (A : Arr Z h a (newA k ty z) ty) (hn : z.toNatClampNeg = n) : VA Z h a ty n (fun _ => defaultValue ty) := by
  refine ⟨_, A, by rw [sz_new, hn], fun j hj => ?_⟩
  rw [own_newslots, hn, Array.getElem?_replicate, if_pos hj]
/-- place i of f turned to x -/
def upd {α : Type} (f : Nat → α) (i : Nat) (x : α) (j : Nat) : α := if j = i then x else f j
theorem VA.setI {i : Nat} {x : Int32} {f : Nat → Int32} (A : VA Z h a ty n (fun j => .int (f j))) (W : Wr h h' a i (.int x)) : VA Z h' a ty n (fun j => .int (upd f i x j)) :=
  (A.set W).congr fun j _ => by simp only [upd]; split <;> rfl
theorem VA.setJ {i : Nat} {x : Int64} {f : Nat → Int64} (A : VA Z h a ty n (fun j => .long (f j))) (W : Wr h h' a i (.long x)) : VA Z h' a ty n (fun j => .long (upd f i x j)) :=
  (A.set W).congr fun j _ => by simp only [upd]; split <;> rfl
theorem own_nn {j : Nat} (hj : j < 2147483648) : ¬ Int32.ofNat j < 0 := by
  rw [Int32.lt_iff_toInt_lt, Int32.toInt_ofNat_of_lt hj, show (0 : Int32).toInt = 0 from rfl]; omega
theorem own_n32 {j : Nat} (hj : j < 2147483648) : (Int32.ofNat j).toNatClampNeg = j := by
  rw [Int32.toNatClampNeg, Int32.toInt_ofNat_of_lt hj]; rfl
theorem own_lt {i j : Nat} (hi : i < 2147483648) (hj : j < 2147483648) : Int32.ofNat i < Int32.ofNat j ↔ i < j := by
  rw [Int32.lt_iff_toInt_lt, Int32.toInt_ofNat_of_lt hi, Int32.toInt_ofNat_of_lt hj]; omega
theorem own_eq {i j : Nat} (hi : i < 2147483648) (hj : j < 2147483648) : Int32.ofNat i = Int32.ofNat j ↔ i = j := by
  rw [← Int32.toInt_inj, Int32.toInt_ofNat_of_lt hi, Int32.toInt_ofNat_of_lt hj]; omega
theorem own_in {i : Int32} {j k : Nat} (hi : i = Int32.ofNat j) (hj : j < k) (hb : k ≤ 2147483648) : ¬ (i < 0 ∨ k ≤ i.toNatClampNeg) := by
  subst hi; rw [own_n32 (by omega)]; exact fun q => q.elim (own_nn (by omega)) (fun q => by omega)
theorem own_len (X : Stand p l e R s m args below meth c T locs cells slots) (hx : p.tables.exec = Jvm.exec) (hZ : Z.Warmed39 s.vm) (eT : T.heap = h) (A : VA Z h a ty n f) {N : Int32} (hN : N = Int32.ofNat n) {g : JFrame} (hg : g.method = m) {rest : List Value} (hs : g.stack = .ref a :: rest) (hd : decode c.code g.pc = .ok (.arraylength, 1)) :
    ∀ t, Steps p.tables e below (T.setTop { g with pc := g.pc + 1, stack := .int N :: rest }) t → Steps p.tables e below (T.setTop g) t := by
  obtain ⟨cl, A, S, H⟩ := A
  intro t k
  refine X.arraylength hx (by rw [eT]; exact A.1) (State.isArrayOf_alike hZ.alike A.2.1) hg hs hd _ ?_
  rw [S, show n.toInt32 = N from hN.symm]
  exact k
theorem own_ild (X : Stand p l e R s m args below meth c T locs cells slots) (hx : p.tables.exec = Jvm.exec) (hZ : Z.Warmed39 s.vm) (eT : T.heap = h) (A : VA Z h a .int n f) {i : Int32} {j : Nat} {v : Value} (hi : i = Int32.ofNat j) (hj : j < n) (hb : n ≤ 2147483648) (hv : f j = v) {g : JFrame} (hg : g.method = m) {rest : List Value} (hs : g.stack = .int i :: .ref a :: rest) (hd : decode c.code g.pc = .ok (.iaload, 1)) :
    ∀ t, Steps p.tables e below (T.setTop { g with pc := g.pc + 1, stack := v :: rest }) t → Steps p.tables e below (T.setTop g) t := by
  obtain ⟨cl, A, S, H⟩ := A
  exact X.iaload hx (by rw [eT]; exact A.1) (State.isArrayOf_alike hZ.alike A.2.1) A.2.2 (by rw [S]; exact own_in hi hj hb) (by rw [hi, own_n32 (by omega), H j hj, hv]) hg hs hd
theorem own_jld (X : Stand p l e R s m args below meth c T locs cells slots) (hx : p.tables.exec = Jvm.exec) (hZ : Z.Warmed39 s.vm) (eT : T.heap = h) (A : VA Z h a .long n f) {i : Int32} {j : Nat} {v : Value} (hi : i = Int32.ofNat j) (hj : j < n) (hb : n ≤ 2147483648) (hv : f j = v) {g : JFrame} (hg : g.method = m) {rest : List Value} (hs : g.stack = .int i :: .ref a :: rest) (hd : decode c.code g.pc = .ok (.laload, 1)) :
    ∀ t, Steps p.tables e below (T.setTop { g with pc := g.pc + 1, stack := v :: rest }) t → Steps p.tables e below (T.setTop g) t := by
  obtain ⟨cl, A, S, H⟩ := A
  exact X.laload hx (by rw [eT]; exact A.1) (State.isArrayOf_alike hZ.alike A.2.1) A.2.2 (by rw [S]; exact own_in hi hj hb) (by rw [hi, own_n32 (by omega), H j hj, hv]) hg hs hd
theorem own_cld (X : Stand p l e R s m args below meth c T locs cells slots) (hx : p.tables.exec = Jvm.exec) (hZ : Z.Warmed39 s.vm) (eT : T.heap = h) (A : VA Z h a .char n f) {i : Int32} {j : Nat} {v : Value} (hi : i = Int32.ofNat j) (hj : j < n) (hb : n ≤ 2147483648) (hv : f j = v) {g : JFrame} (hg : g.method = m) {rest : List Value} (hs : g.stack = .int i :: .ref a :: rest) (hd : decode c.code g.pc = .ok (.caload, 1)) :
    ∀ t, Steps p.tables e below (T.setTop { g with pc := g.pc + 1, stack := v :: rest }) t → Steps p.tables e below (T.setTop g) t := by
  obtain ⟨cl, A, S, H⟩ := A
  exact X.caload hx (by rw [eT]; exact A.1) (State.isArrayOf_alike hZ.alike A.2.1) A.2.2 (by rw [S]; exact own_in hi hj hb) (by rw [hi, own_n32 (by omega), H j hj, hv]) hg hs hd
theorem own_bld (X : Stand p l e R s m args below meth c T locs cells slots) (hx : p.tables.exec = Jvm.exec) (hZ : Z.Warmed39 s.vm) (eT : T.heap = h) (A : VA Z h a .byte n f) {i : Int32} {j : Nat} {v : Value} (hi : i = Int32.ofNat j) (hj : j < n) (hb : n ≤ 2147483648) (hv : f j = v) {g : JFrame} (hg : g.method = m) {rest : List Value} (hs : g.stack = .int i :: .ref a :: rest) (hd : decode c.code g.pc = .ok (.baload, 1)) :
    ∀ t, Steps p.tables e below (T.setTop { g with pc := g.pc + 1, stack := v :: rest }) t → Steps p.tables e below (T.setTop g) t := by
  obtain ⟨cl, A, S, H⟩ := A
  exact X.baloadBytes hx (by rw [eT]; exact A.1) (State.isArrayOf_alike hZ.alike A.2.1) A.2.2 (by rw [S]; exact own_in hi hj hb) (by rw [hi, own_n32 (by omega), H j hj, hv]) hg hs hd
theorem own_ist (X : Stand p l e R s m args below meth c T locs cells slots) (hx : p.tables.exec = Jvm.exec) (hZ : Z.Warmed39 s.vm) (eT : T.heap = h) (A : VA Z h a .int n f) {i x : Int32} {j : Nat} (hi : i = Int32.ofNat j) (hj : j < n) (hb : n ≤ 2147483648) {g : JFrame} (hg : g.method = m) {rest : List Value} (hs : g.stack = .int x :: .int i :: .ref a :: rest) (hd : decode c.code g.pc = .ok (.iastore, 1)) :
    ∃ T' h', Stand p l e R s m args below meth c T' (locs ++ [⟨a, j⟩]) cells slots ∧ T'.heap = h' ∧ Wr h h' a j (.int x) ∧ ∀ t, Steps p.tables e below (T'.setTop { g with pc := g.pc + 1, stack := rest }) t → Steps p.tables e below (T.setTop g) t := by
  obtain ⟨cl, A, S, H⟩ := A
  have q := stI X hx hZ eT A (by rw [S]; exact own_in hi hj hb) hg hs hd
  rw [hi, own_n32 (by omega)] at q
  exact q
theorem own_jst (X : Stand p l e R s m args below meth c T locs cells slots) (hx : p.tables.exec = Jvm.exec) (hZ : Z.Warmed39 s.vm) (eT : T.heap = h) (A : VA Z h a .long n f) {i : Int32} {x : Int64} {j : Nat} (hi : i = Int32.ofNat j) (hj : j < n) (hb : n ≤ 2147483648) {g : JFrame} (hg : g.method = m) {rest : List Value} (hs : g.stack = .long x :: .int i :: .ref a :: rest) (hd : decode c.code g.pc = .ok (.lastore, 1)) :
    ∃ T' h', Stand p l e R s m args below meth c T' (locs ++ [⟨a, j⟩]) cells slots ∧ T'.heap = h' ∧ Wr h h' a j (.long x) ∧ ∀ t, Steps p.tables e below (T'.setTop { g with pc := g.pc + 1, stack := rest }) t → Steps p.tables e below (T.setTop g) t := by
  obtain ⟨cl, A, S, H⟩ := A
  have q := stJ X hx hZ eT A (by rw [S]; exact own_in hi hj hb) hg hs hd
  rw [hi, own_n32 (by omega)] at q
  exact q
theorem own_cst (X : Stand p l e R s m args below meth c T locs cells slots) (hx : p.tables.exec = Jvm.exec) (hZ : Z.Warmed39 s.vm) (eT : T.heap = h) (A : VA Z h a .char n f) {i x : Int32} {j : Nat} (hi : i = Int32.ofNat j) (hj : j < n) (hb : n ≤ 2147483648) {g : JFrame} (hg : g.method = m) {rest : List Value} (hs : g.stack = .int x :: .int i :: .ref a :: rest) (hd : decode c.code g.pc = .ok (.castore, 1)) :
    ∃ T' h', Stand p l e R s m args below meth c T' (locs ++ [⟨a, j⟩]) cells slots ∧ T'.heap = h' ∧ Wr h h' a j (.int (nar .char x)) ∧ ∀ t, Steps p.tables e below (T'.setTop { g with pc := g.pc + 1, stack := rest }) t → Steps p.tables e below (T.setTop g) t := by
  obtain ⟨cl, A, S, H⟩ := A
  have q := stC X hx hZ eT A (by rw [S]; exact own_in hi hj hb) hg hs hd
  rw [hi, own_n32 (by omega)] at q
  exact q
theorem own_bst (X : Stand p l e R s m args below meth c T locs cells slots) (hx : p.tables.exec = Jvm.exec) (hZ : Z.Warmed39 s.vm) (eT : T.heap = h) (A : VA Z h a .byte n f) {i x : Int32} {j : Nat} (hi : i = Int32.ofNat j) (hj : j < n) (hb : n ≤ 2147483648) {g : JFrame} (hg : g.method = m) {rest : List Value} (hs : g.stack = .int x :: .int i :: .ref a :: rest) (hd : decode c.code g.pc = .ok (.bastore, 1)) :
    ∃ T' h', Stand p l e R s m args below meth c T' (locs ++ [⟨a, j⟩]) cells slots ∧ T'.heap = h' ∧ Wr h h' a j (.int (nar .byte x)) ∧ ∀ t, Steps p.tables e below (T'.setTop { g with pc := g.pc + 1, stack := rest }) t → Steps p.tables e below (T.setTop g) t := by
  obtain ⟨cl, A, S, H⟩ := A
  have q := stB X hx hZ eT A (by rw [S]; exact own_in hi hj hb) hg hs hd
  rw [hi, own_n32 (by omega)] at q
  exact q
end Own
theorem own_succ (k : Nat) : Int32.ofNat k + (1 : Int32) = Int32.ofNat (k + 1) := (Int32.ofNat_add k 1).symm
theorem own_pred (k : Nat) : Int32.ofNat (k + 1) - (1 : Int32) = Int32.ofNat k := by
  rw [← own_succ, Int32.add_sub_cancel]
theorem own_dec (k : Nat) : Int32.ofNat k + (-1 : Int32) = Int32.ofNat k - (1 : Int32) := by
  rw [Int32.sub_eq_add_neg]
def own_min (x y : Int32) : Int32 := if y < x then y else x
theorem own_l (y : Int32) : ∃ i : Nat, i < 3 ∧ (y &&& (255 : Int32)) - ((y &&& (255 : Int32)) / (3 : Int32)) * (3 : Int32) = Int32.ofNat i := by
  have h := c_and y 255 (by decide)
  have h5 : (255 : Int32).toInt = 255 := by decide
  have h3 : (3 : Int32).toInt = 3 := by decide
  generalize (y &&& (255 : Int32)) = z at h
  have hd := (c_idiv z 3 3 (by decide) (by decide)).1 h.1
  have hm := c_imul (z / 3) 3
  rw [h3] at hm
  have hr := rng32 (z / 3 * 3)
  have hs := c_isub z (z / 3 * 3)
  have hr2 := rng32 (z - z / 3 * 3)
  refine ⟨(z - z / 3 * 3).toInt.toNat, by omega, ?_⟩
  rw [← Int32.toInt_inj, Int32.toInt_ofNat_of_lt (by omega)]
  omega
/-- what mark does before it writes the rank -/
def own_mk0 (i : Nat) (v : Int32) (gll : Nat → Nat) (flf fcf : Nat → Int32) (gcl : Nat → Nat) (cc lc : Nat) (gll' : Nat → Nat) (flf' : Nat → Int32) (gcl' : Nat → Nat) (cc' lc' : Nat) : Prop :=
  (fcf i = 2147483647 ∧ gll' = gll ∧ flf' = flf ∧ gcl' = upd gcl cc i ∧ cc' = cc + 1 ∧ lc' = lc) ∨ (¬ fcf i = 2147483647 ∧ v < fcf i ∧ gll' = upd gll lc i ∧ flf' = upd flf lc (fcf i) ∧ gcl' = gcl ∧ cc' = cc ∧ lc' = lc + 1) ∨ (¬ fcf i = 2147483647 ∧ ¬ v < fcf i ∧ gll' = gll ∧ flf' = flf ∧ gcl' = gcl ∧ cc' = cc ∧ lc' = lc)
def own_mk (i : Nat) (v : Int32) (gll : Nat → Nat) (flf fcf : Nat → Int32) (gcl : Nat → Nat) (cc lc : Nat) (gll' : Nat → Nat) (flf' fcf' : Nat → Int32) (gcl' : Nat → Nat) (cc' lc' : Nat) : Prop :=
  own_mk0 i v gll flf fcf gcl cc lc gll' flf' gcl' cc' lc' ∧ fcf' = upd fcf i (own_min (fcf i) v)
def own_undo (gll : Nat → Nat) (flf : Nat → Int32) : Nat → (Nat → Int32) → (Nat → Int32)
  | 0, f => f
  | k + 1, f => own_undo gll flf k (upd f (gll k) (flf k))
def own_wipe (gcl : Nat → Nat) : Nat → Nat → (Nat → Int32) → (Nat → Int32)
  | 0, _, f => f
  | k + 1, i, f => own_wipe gcl k (i + 1) (upd f (gcl i) 2147483647)
def own_b (f : Nat → Int32) (j : Nat) : Nat := if f j = 2147483647 then 0 else 1
def own_cnt (f : Nat → Int32) : Nat := own_b f 0 + own_b f 1 + own_b f 2
theorem own_b_le (f : Nat → Int32) (j : Nat) : own_b f j ≤ 1 := by unfold own_b; split <;> omega
theorem own_b_0 {f : Nat → Int32} {j : Nat} (h : f j = 2147483647) : own_b f j = 0 := if_pos h
theorem own_b_1 {f : Nat → Int32} {j : Nat} (h : ¬ f j = 2147483647) : own_b f j = 1 := if_neg h
/-- what holds between two calls: a free place where one is asked; the counts; the links are three -/
def own_inv (n : Nat) (gll : Nat → Nat) (fcf : Nat → Int32) (gcl : Nat → Nat) (cc lc : Nat) : Prop :=
  (∀ i, i < 3 → fcf i = 2147483647 → cc < 3) ∧ cc ≤ 3 ∧ lc ≤ n ∧ (∀ j, gll j < 3) ∧ (∀ j, gcl j < 3) ∧ cc = own_cnt fcf
theorem own_free {f : Nat → Int32} {cc i : Nat} (h : cc = own_cnt f) (hi : i < 3) (hf : f i = 2147483647) : cc < 3 := by
  have h0 := own_b_le f 0; have h1 := own_b_le f 1; have h2 := own_b_le f 2
  have hb := own_b_0 hf
  unfold own_cnt at h
  have hi' : i = 0 ∨ i = 1 ∨ i = 2 := by omega
  rcases hi' with rfl | rfl | rfl <;> omega
theorem own_cnt_le (f : Nat → Int32) : own_cnt f ≤ 3 := by
  have h0 := own_b_le f 0; have h1 := own_b_le f 1; have h2 := own_b_le f 2
  unfold own_cnt; omega
theorem own_start : own_inv 0 (fun _ => 0) (fun _ => 2147483647) (fun _ => 0) 0 0 := ⟨fun _ _ _ => by omega, by omega, by omega, fun _ => (by decide : (0 : Nat) < 3), fun _ => (by decide : (0 : Nat) < 3), by decide⟩
theorem own_max {v w : Int32} (hv : v ≠ 2147483647) (hw : w ≠ 2147483647) : own_min w v ≠ 2147483647 := by
  unfold own_min; split
  · exact hv
  · exact hw
theorem own_minM {v : Int32} (hv : v ≠ 2147483647) : own_min 2147483647 v = v := by
  unfold own_min
  have h1 := rng32 v
  have h2 : (2147483647 : Int32).toInt = 2147483647 := by decide
  rw [if_pos]
  rw [Int32.lt_iff_toInt_lt]
  rw [Ne, ← Int32.toInt_inj] at hv
  omega
theorem own_upd0 {α : Type} (f : Nat → α) (i : Nat) (x : α) : upd f i x i = x := if_pos rfl
theorem own_upd1 {α : Type} (f : Nat → α) {i j : Nat} (x : α) (h : j ≠ i) : upd f i x j = f j := if_neg h
theorem own_b_upd {f : Nat → Int32} {i j : Nat} {x : Int32} (h : j ≠ i) : own_b (upd f i x) j = own_b f j := by unfold own_b; rw [own_upd1 _ _ h]
theorem own_cnt_upd {f : Nat → Int32} {i : Nat} {x : Int32} (hi : i < 3) (hx : x ≠ 2147483647) : own_cnt (upd f i x) = own_cnt f + (1 - own_b f i) := by
  have hb : own_b (upd f i x) i = 1 := own_b_1 (by rw [own_upd0]; exact hx)
  have h0 := own_b_le f 0; have h1 := own_b_le f 1; have h2 := own_b_le f 2
  unfold own_cnt
  have hi' : i = 0 ∨ i = 1 ∨ i = 2 := by omega
  rcases hi' with rfl | rfl | rfl
  · rw [hb, own_b_upd (by decide), own_b_upd (by decide)]; omega
  · rw [hb, own_b_upd (by decide), own_b_upd (by decide)]; omega
  · rw [hb, own_b_upd (by decide), own_b_upd (by decide)]; omega
theorem own_updlt {g : Nat → Nat} {i x : Nat} (hg : ∀ j, g j < 3) (hx : x < 3) : ∀ j, upd g i x j < 3 := fun j => by
  unfold upd; split
  · exact hx
  · exact hg j
theorem own_step {n i : Nat} {v : Int32} {gll : Nat → Nat} {flf fcf : Nat → Int32} {gcl : Nat → Nat} {cc lc : Nat} {gll' : Nat → Nat} {flf' fcf' : Nat → Int32} {gcl' : Nat → Nat} {cc' lc' : Nat} (hi : i < 3) (hv : v ≠ 2147483647) (I : own_inv n gll fcf gcl cc lc) (M : own_mk i v gll flf fcf gcl cc lc gll' flf' fcf' gcl' cc' lc') : own_inv (n + 1) gll' fcf' gcl' cc' lc' := by
  obtain ⟨a1, a2, a3, a4, a5, a6⟩ := I
  obtain ⟨M, rfl⟩ := M
  have hc : cc' = own_cnt (upd fcf i (own_min (fcf i) v)) := by
    rcases M with ⟨h, rfl, rfl, rfl, rfl, rfl⟩ | ⟨h, h2, rfl, rfl, rfl, rfl, rfl⟩ | ⟨h, h2, rfl, rfl, rfl, rfl, rfl⟩
    · rw [own_cnt_upd hi (by rw [h, own_minM hv]; exact hv), own_b_0 h, a6]
    · rw [own_cnt_upd hi (own_max hv h), own_b_1 h, a6]; rfl
    · rw [own_cnt_upd hi (own_max hv h), own_b_1 h, a6]; rfl
  refine ⟨fun j hj hf => own_free hc hj hf, by rw [hc]; exact own_cnt_le _, ?_, ?_, ?_, hc⟩
  · rcases M with ⟨h, rfl, rfl, rfl, rfl, rfl⟩ | ⟨h, h2, rfl, rfl, rfl, rfl, rfl⟩ | ⟨h, h2, rfl, rfl, rfl, rfl, rfl⟩ <;> omega
  · rcases M with ⟨h, rfl, rfl, rfl, rfl, rfl⟩ | ⟨h, h2, rfl, rfl, rfl, rfl, rfl⟩ | ⟨h, h2, rfl, rfl, rfl, rfl, rfl⟩
    · exact a4
    · exact own_updlt a4 hi
    · exact a4
  · rcases M with ⟨h, rfl, rfl, rfl, rfl, rfl⟩ | ⟨h, h2, rfl, rfl, rfl, rfl, rfl⟩ | ⟨h, h2, rfl, rfl, rfl, rfl, rfl⟩
    · exact own_updlt a5 hi
    · exact a5
    · exact a5
theorem own_kept {n : Nat} {gll : Nat → Nat} {fcf : Nat → Int32} {gcl : Nat → Nat} {cc lc : Nat} (I : own_inv n gll fcf gcl cc lc) : own_inv 0 gll fcf gcl cc 0 := ⟨I.1, I.2.1, Nat.le_refl 0, I.2.2.2⟩
theorem own_grow {i : Nat} {v : Int32} {gll : Nat → Nat} {flf fcf : Nat → Int32} {gcl : Nat → Nat} {cc lc : Nat} {gll' : Nat → Nat} {flf' fcf' : Nat → Int32} {gcl' : Nat → Nat} {cc' lc' : Nat} (M : own_mk i v gll flf fcf gcl cc lc gll' flf' fcf' gcl' cc' lc') : cc ≤ cc' := by
  rcases M.1 with ⟨h, h1, h2, h3, h4, h5⟩ | ⟨h, h2, h3, h4, h5, h6, h7⟩ | ⟨h, h2, h3, h4, h5, h6, h7⟩ <;> omega
theorem own_more {i i' : Nat} {v v' : Int32} {gll : Nat → Nat} {flf fcf : Nat → Int32} {gcl : Nat → Nat} {cc lc : Nat} {gll' : Nat → Nat} {flf' fcf' : Nat → Int32} {gcl' : Nat → Nat} {cc' lc' : Nat} {gll'' : Nat → Nat} {flf'' fcf'' : Nat → Int32} {gcl'' : Nat → Nat} {cc'' lc'' : Nat} (M : own_mk i v gll flf fcf gcl cc lc gll' flf' fcf' gcl' cc' lc') (M' : own_mk i' v' gll' flf' fcf' gcl' cc' lc' gll'' flf'' fcf'' gcl'' cc'' lc'') : cc ≤ cc'' := Nat.le_trans (own_grow M) (own_grow M')
theorem own_same {g : Nat → Int32} {i : Nat} {v : Int32} (h : ¬ v < g i) : upd g i (own_min (g i) v) = g := by
  funext j; unfold upd; split
  · rename_i q; subst q; exact if_neg h
  · rfl
theorem own_uu {g : Nat → Int32} {i : Nat} {x y : Int32} : upd (upd g i x) i y = upd g i y := by
  funext j; unfold upd; split <;> rfl
theorem own_back {g : Nat → Int32} {i : Nat} {x : Int32} (h : g i = x) : upd g i x = g := by
  funext j; unfold upd; split
  · rename_i q; rw [q, h]
  · rfl
theorem own_uc {g : Nat → Int32} {i j : Nat} {x y : Int32} (h : i ≠ j) : upd (upd g i x) j y = upd (upd g j y) i x := by
  funext k; unfold upd
  by_cases h1 : k = i
  · by_cases h2 : k = j
    · exact absurd (h1.symm.trans h2) h
    · rw [if_neg h2, if_pos h1, if_pos h1]
  · by_cases h2 : k = j
    · rw [if_pos h2, if_neg h1, if_pos h2]
    · rw [if_neg h2, if_neg h1, if_neg h1, if_neg h2]
/-- two marks and the way back -/
theorem own_round {g : Nat → Int32} {i3 i4 : Nat} {v3 v4 : Int32} {gll : Nat → Nat} {flf : Nat → Int32} {gcl : Nat → Nat} {cc : Nat} {a3 : Nat → Nat} {b3 c3 : Nat → Int32} {d3 : Nat → Nat} {x3 y3 : Nat} {a4 : Nat → Nat} {b4 c4 : Nat → Int32} {d4 : Nat → Nat} {x4 y4 : Nat} (hv3 : v3 ≠ 2147483647) (M3 : own_mk i3 v3 gll flf g gcl cc 0 a3 b3 c3 d3 x3 y3) (M4 : own_mk i4 v4 a3 b3 c3 d3 x3 y3 a4 b4 c4 d4 x4 y4) :
    own_wipe d4 (x4 - cc) cc (own_undo a4 b4 y4 c4) = g := by
  obtain ⟨M3, rfl⟩ := M3
  obtain ⟨M4, rfl⟩ := M4
  rcases M3 with ⟨h, rfl, rfl, rfl, rfl, rfl⟩ | ⟨h, h2, rfl, rfl, rfl, rfl, rfl⟩ | ⟨h, h2, rfl, rfl, rfl, rfl, rfl⟩
  · -- marked anew by the third
    rcases M4 with ⟨k, rfl, rfl, rfl, rfl, rfl⟩ | ⟨k, k2, rfl, rfl, rfl, rfl, rfl⟩ | ⟨k, k2, rfl, rfl, rfl, rfl, rfl⟩
    · have hne : i4 ≠ i3 := fun q => by
        rw [q, own_upd0, h, own_minM hv3] at k; exact hv3 k
      rw [own_upd1 _ _ hne] at k ⊢
      rw [show cc + 1 + 1 - cc = 2 by omega]
      show upd (upd (upd (upd g i3 _) i4 _) (upd (upd gcl cc i3) (cc + 1) i4 cc) 2147483647) (upd (upd gcl cc i3) (cc + 1) i4 (cc + 1)) 2147483647 = g
      rw [own_upd0, own_upd1 _ _ (by omega : cc ≠ cc + 1), own_upd0, own_uc (fun q => hne q.symm), own_uu, own_uc (fun q => hne q.symm), own_uu, own_back (g := g) k, own_back h]
    · rw [show cc + 1 - cc = 1 by omega]
      show upd (upd (upd (upd g i3 _) i4 _) (upd a3 0 i4 0) (upd b3 0 _ 0)) (upd gcl cc i3 cc) 2147483647 = g
      rw [own_upd0, own_upd0, own_upd0, own_uu]
      by_cases hne : i4 = i3
      · rw [hne, own_upd0, own_uu, own_uu, own_back h]
      · rw [own_upd1 _ _ hne, own_uc hne, own_uu, own_back (g := upd g i3 2147483647) (by rw [own_upd1 _ _ hne]), own_back h]
    · rw [own_same k2, show cc + 1 - cc = 1 by omega]
      show upd (upd g i3 _) (upd gcl cc i3 cc) 2147483647 = g
      rw [own_upd0, own_uu, own_back h]
  · -- lowered by the third
    rcases M4 with ⟨k, rfl, rfl, rfl, rfl, rfl⟩ | ⟨k, k2, rfl, rfl, rfl, rfl, rfl⟩ | ⟨k, k2, rfl, rfl, rfl, rfl, rfl⟩
    · rw [show x3 + 1 - x3 = 1 by omega]
      show upd (upd (upd (upd g i3 _) i4 _) (upd gll 0 i3 0) (upd flf 0 (g i3) 0)) (upd d3 x3 i4 x3) 2147483647 = g
      rw [own_upd0, own_upd0, own_upd0]
      have hne : i4 ≠ i3 := fun q => by
        rw [q, own_upd0] at k; exact own_max hv3 h k
      rw [own_upd1 _ _ hne] at k ⊢
      rw [own_uc hne, own_uu, own_uu, own_back (g := g) rfl, own_back k]
    · rw [Nat.sub_self]
      show upd (upd (upd (upd g i3 _) i4 _) (upd (upd gll 0 i3) (0 + 1) i4 (0 + 1)) (upd (upd flf 0 (g i3)) (0 + 1) _ (0 + 1))) (upd (upd gll 0 i3) (0 + 1) i4 0) (upd (upd flf 0 (g i3)) (0 + 1) _ 0) = g
      rw [own_upd0, own_upd0, own_upd1 _ _ (by decide : (0 : Nat) ≠ 0 + 1), own_upd0, own_upd1 _ _ (by decide : (0 : Nat) ≠ 0 + 1), own_upd0, own_uu, own_back (g := upd g i3 _) rfl, own_uu, own_back rfl]
    · rw [own_same k2, Nat.sub_self]
      show upd (upd g i3 _) (upd gll 0 i3 0) (upd flf 0 (g i3) 0) = g
      rw [own_upd0, own_upd0, own_uu, own_back rfl]
  · -- left as it was by the third
    rw [own_same h2] at M4 ⊢
    rcases M4 with ⟨k, rfl, rfl, rfl, rfl, rfl⟩ | ⟨k, k2, rfl, rfl, rfl, rfl, rfl⟩ | ⟨k, k2, rfl, rfl, rfl, rfl, rfl⟩
    · rw [show x3 + 1 - x3 = 1 by omega]
      show upd (upd g i4 _) (upd d3 x3 i4 x3) 2147483647 = g
      rw [own_upd0, own_uu, own_back k]
    · rw [Nat.sub_self]
      show upd (upd g i4 _) (upd a3 0 i4 0) (upd b3 0 (g i4) 0) = g
      rw [own_upd0, own_upd0, own_uu, own_back rfl]
    · rw [own_same k2, Nat.sub_self]; rfl
theorem own_law {i1 i2 i3 i4 : Nat} {v1 v2 v3 v4 : Int32} {e0f e1f e2f : Nat → Int32} {a1 : Nat → Nat} {b1 c1 : Nat → Int32} {d1 : Nat → Nat} {x1 y1 : Nat} {a2 : Nat → Nat} {b2 c2 : Nat → Int32} {d2 : Nat → Nat} {x2 y2 : Nat} {a3 : Nat → Nat} {b3 c3 : Nat → Int32} {d3 : Nat → Nat} {x3 y3 : Nat} {a4 : Nat → Nat} {b4 c4 : Nat → Int32} {d4 : Nat → Nat} {x4 y4 : Nat}
    (hi1 : i1 < 3) (hi2 : i2 < 3) (hi3 : i3 < 3) (hi4 : i4 < 3) (hv1 : v1 ≠ 2147483647) (hv2 : v2 ≠ 2147483647) (hv3 : v3 ≠ 2147483647) (hv4 : v4 ≠ 2147483647) (he0 : e0f = upd (upd (upd (fun _ => (0 : Int32)) 0 2147483647) 1 2147483647) 2 2147483647) (he1 : e1f = upd e0f i1 (own_min (e0f i1) v1)) (he2 : e2f = upd e1f i2 (own_min (e1f i2) v2))
    (M1 : own_mk i1 v1 (fun _ => 0) (fun _ => 0) (fun _ => 2147483647) (fun _ => 0) 0 0 a1 b1 c1 d1 x1 y1) (M2 : own_mk i2 v2 a1 b1 c1 d1 x1 y1 a2 b2 c2 d2 x2 y2) (M3 : own_mk i3 v3 a2 b2 c2 d2 x2 0 a3 b3 c3 d3 x3 y3) (M4 : own_mk i4 v4 a3 b3 c3 d3 x3 y3 a4 b4 c4 d4 x4 y4) :
    ∀ j, j < 3 → own_wipe d4 (x4 - x2) x2 (own_undo a4 b4 y4 c4) j = e2f j := by
  rw [own_round hv3 M3 M4]
  have h0 : ∀ j, j < 3 → e0f j = 2147483647 := fun j hj => by
    subst he0
    have hj' : j = 0 ∨ j = 1 ∨ j = 2 := by omega
    rcases hj' with rfl | rfl | rfl <;> rfl
  have h1 : ∀ j, j < 3 → c1 j = e1f j := fun j hj => by
    rw [M1.2, he1]; unfold upd; rw [h0 i1 hi1, h0 j hj]
  have h2 : ∀ j, j < 3 → c2 j = e2f j := fun j hj => by
    rw [M2.2, he2]; unfold upd; rw [h1 i2 hi2, h1 j hj]
  exact h2
theorem pd_0 : parseMethodDescriptor "([II)V" = some ⟨[(.array .int), .int], none⟩ := by decide +kernel
theorem pd_1 : parseMethodDescriptor "(II)I" = some ⟨[.int, .int], some .int⟩ := by decide +kernel
theorem pd_2 : parseMethodDescriptor "(I)I" = some ⟨[.int], some .int⟩ := by decide +kernel
theorem pd_3 : parseMethodDescriptor "(I)V" = some ⟨[.int], none⟩ := by decide +kernel
theorem pd_4 : parseMethodDescriptor "(II)V" = some ⟨[.int, .int], none⟩ := by decide +kernel
theorem pd_5 : parseMethodDescriptor "()V" = some ⟨[], none⟩ := by decide +kernel
def CM (Z : State) (h : Heap) (n0 : Nat) (o ll lf cf cl : Nat) (gll : Nat → Nat) (flf fcf : Nat → Int32) (gcl : Nat → Nat) (cc lc kc : Nat) : Prop := (n0 ≤ o ∧ o < ll ∧ ll < lf ∧ lf < cf ∧ cf < cl) ∧ n0 ≤ h.size ∧ Exa Z h o "com/example/rackweave/rackweave/core/ChangeMarks" ∧ Fld Z h o "com/example/rackweave/rackweave/core/ChangeMarks" "loweredLinks" "[I" (.ref ll) ∧ Fld Z h o "com/example/rackweave/rackweave/core/ChangeMarks" "loweredFrom" "[I" (.ref lf) ∧ Fld Z h o "com/example/rackweave/rackweave/core/ChangeMarks" "changedFrom" "[I" (.ref cf) ∧ Fld Z h o "com/example/rackweave/rackweave/core/ChangeMarks" "changedLinks" "[I" (.ref cl) ∧ Fld Z h o "com/example/rackweave/rackweave/core/ChangeMarks" "changedCount" "I" (.int (Int32.ofNat cc)) ∧ Fld Z h o "com/example/rackweave/rackweave/core/ChangeMarks" "loweredCount" "I" (.int (Int32.ofNat lc)) ∧ Fld Z h o "com/example/rackweave/rackweave/core/ChangeMarks" "keptCount" "I" (.int (Int32.ofNat kc)) ∧ VA Z h ll .int 16 (fun j => .int (Int32.ofNat (gll j))) ∧ VA Z h lf .int 16 (fun j => .int (flf j)) ∧ VA Z h cf .int 3 (fun j => .int (fcf j)) ∧ VA Z h cl .int 3 (fun j => .int (Int32.ofNat (gcl j)))
theorem VA.setN {Z : State} {h h' : Heap} {a : Nat} {n i x : Nat} {f : Nat → Nat} (A : VA Z h a .int n (fun j => .int (Int32.ofNat (f j)))) (W : Wr h h' a i (.int (Int32.ofNat x))) : VA Z h' a .int n (fun j => .int (Int32.ofNat (upd f i x j))) :=
  (A.setI (f := fun j => Int32.ofNat (f j)) W).congr fun j _ => by simp only [upd]; split <;> rfl
theorem CM.wll {Z : State} {h h' : Heap} {n0 : Nat} {o ll lf cf cl : Nat} {gll : Nat → Nat} {flf fcf : Nat → Int32} {gcl : Nat → Nat} {cc lc kc : Nat} {i : Nat} {x : Nat} (H : CM Z h n0 o ll lf cf cl gll flf fcf gcl cc lc kc) (W : Wr h h' ll i (.int (Int32.ofNat x))) : CM Z h' n0 o ll lf cf cl (upd gll i x) flf fcf gcl cc lc kc := by
  obtain ⟨⟨o1, o2, o3, o4, o5⟩, hz, Ex, Fll, Flf, Fcf, Fcl, Fcc, Flc, Fkc, All, Alf, Acf, Acl⟩ := H
  have ne1 : o ≠ ll := by omega
  exact ⟨⟨o1, o2, o3, o4, o5⟩, by rw [Wr.size W]; exact hz, Ex.wr W, Fll.other W (Or.inl ne1), Flf.other W (Or.inl ne1), Fcf.other W (Or.inl ne1), Fcl.other W (Or.inl ne1), Fcc.other W (Or.inl ne1), Flc.other W (Or.inl ne1), Fkc.other W (Or.inl ne1), All.setN W, Alf.other W (by omega), Acf.other W (by omega), Acl.other W (by omega)⟩
theorem CM.wlf {Z : State} {h h' : Heap} {n0 : Nat} {o ll lf cf cl : Nat} {gll : Nat → Nat} {flf fcf : Nat → Int32} {gcl : Nat → Nat} {cc lc kc : Nat} {i : Nat} {x : Int32} (H : CM Z h n0 o ll lf cf cl gll flf fcf gcl cc lc kc) (W : Wr h h' lf i (.int x)) : CM Z h' n0 o ll lf cf cl gll (upd flf i x) fcf gcl cc lc kc := by
  obtain ⟨⟨o1, o2, o3, o4, o5⟩, hz, Ex, Fll, Flf, Fcf, Fcl, Fcc, Flc, Fkc, All, Alf, Acf, Acl⟩ := H
  have ne1 : o ≠ lf := by omega
  exact ⟨⟨o1, o2, o3, o4, o5⟩, by rw [Wr.size W]; exact hz, Ex.wr W, Fll.other W (Or.inl ne1), Flf.other W (Or.inl ne1), Fcf.other W (Or.inl ne1), Fcl.other W (Or.inl ne1), Fcc.other W (Or.inl ne1), Flc.other W (Or.inl ne1), Fkc.other W (Or.inl ne1), All.other W (by omega), Alf.setI W, Acf.other W (by omega), Acl.other W (by omega)⟩
theorem CM.wcf {Z : State} {h h' : Heap} {n0 : Nat} {o ll lf cf cl : Nat} {gll : Nat → Nat} {flf fcf : Nat → Int32} {gcl : Nat → Nat} {cc lc kc : Nat} {i : Nat} {x : Int32} (H : CM Z h n0 o ll lf cf cl gll flf fcf gcl cc lc kc) (W : Wr h h' cf i (.int x)) : CM Z h' n0 o ll lf cf cl gll flf (upd fcf i x) gcl cc lc kc := by
  obtain ⟨⟨o1, o2, o3, o4, o5⟩, hz, Ex, Fll, Flf, Fcf, Fcl, Fcc, Flc, Fkc, All, Alf, Acf, Acl⟩ := H
  have ne1 : o ≠ cf := by omega
  exact ⟨⟨o1, o2, o3, o4, o5⟩, by rw [Wr.size W]; exact hz, Ex.wr W, Fll.other W (Or.inl ne1), Flf.other W (Or.inl ne1), Fcf.other W (Or.inl ne1), Fcl.other W (Or.inl ne1), Fcc.other W (Or.inl ne1), Flc.other W (Or.inl ne1), Fkc.other W (Or.inl ne1), All.other W (by omega), Alf.other W (by omega), Acf.setI W, Acl.other W (by omega)⟩
theorem CM.wcl {Z : State} {h h' : Heap} {n0 : Nat} {o ll lf cf cl : Nat} {gll : Nat → Nat} {flf fcf : Nat → Int32} {gcl : Nat → Nat} {cc lc kc : Nat} {i : Nat} {x : Nat} (H : CM Z h n0 o ll lf cf cl gll flf fcf gcl cc lc kc) (W : Wr h h' cl i (.int (Int32.ofNat x))) : CM Z h' n0 o ll lf cf cl gll flf fcf (upd gcl i x) cc lc kc := by
  obtain ⟨⟨o1, o2, o3, o4, o5⟩, hz, Ex, Fll, Flf, Fcf, Fcl, Fcc, Flc, Fkc, All, Alf, Acf, Acl⟩ := H
  have ne1 : o ≠ cl := by omega
  exact ⟨⟨o1, o2, o3, o4, o5⟩, by rw [Wr.size W]; exact hz, Ex.wr W, Fll.other W (Or.inl ne1), Flf.other W (Or.inl ne1), Fcf.other W (Or.inl ne1), Fcl.other W (Or.inl ne1), Fcc.other W (Or.inl ne1), Flc.other W (Or.inl ne1), Fkc.other W (Or.inl ne1), All.other W (by omega), Alf.other W (by omega), Acf.other W (by omega), Acl.setN W⟩
theorem CM.fcc {Z : State} {a0 : Array Value} {h h' : Heap} (hw : ∀ d ∈ tables_1, d.before a0 Z = true) {n0 : Nat} {o ll lf cf cl : Nat} {gll : Nat → Nat} {flf fcf : Nat → Int32} {gcl : Nat → Nat} {cc lc kc : Nat} {x : Nat} (H : CM Z h n0 o ll lf cf cl gll flf fcf gcl cc lc kc) (W : Wr h h' o (Jvm.RoadKit.slotOf Z "com/example/rackweave/rackweave/core/ChangeMarks" "changedCount" "I") (.int (Int32.ofNat x))) : CM Z h' n0 o ll lf cf cl gll flf fcf gcl x lc kc := by
  obtain ⟨⟨o1, o2, o3, o4, o5⟩, hz, Ex, Fll, Flf, Fcf, Fcl, Fcc, Flc, Fkc, All, Alf, Acf, Acl⟩ := H
  exact ⟨⟨o1, o2, o3, o4, o5⟩, by rw [Wr.size W]; exact hz, Ex.wr W, Fll.other W (Or.inr (slot_ne (Or.inl (hw _ (List.mem_of_getElem? (i := 20) rfl))) (Or.inl (hw _ (List.mem_of_getElem? (i := 38) rfl))) (by decide) (t := (.array .int)) (t' := .int) (by decide) (by decide))), Flf.other W (Or.inr (slot_ne (Or.inl (hw _ (List.mem_of_getElem? (i := 22) rfl))) (Or.inl (hw _ (List.mem_of_getElem? (i := 38) rfl))) (by decide) (t := (.array .int)) (t' := .int) (by decide) (by decide))), Fcf.other W (Or.inr (slot_ne (Or.inr (hw _ (List.mem_of_getElem? (i := 24) rfl))) (Or.inl (hw _ (List.mem_of_getElem? (i := 38) rfl))) (by decide) (t := (.array .int)) (t' := .int) (by decide) (by decide))), Fcl.other W (Or.inr (slot_ne (Or.inr (hw _ (List.mem_of_getElem? (i := 31) rfl))) (Or.inl (hw _ (List.mem_of_getElem? (i := 38) rfl))) (by decide) (t := (.array .int)) (t' := .int) (by decide) (by decide))), Fcc.same W, Flc.other W (Or.inr (slot_ne (Or.inl (hw _ (List.mem_of_getElem? (i := 41) rfl))) (Or.inl (hw _ (List.mem_of_getElem? (i := 38) rfl))) (by decide) (t := .int) (t' := .int) (by decide) (by decide))), Fkc.other W (Or.inr (slot_ne (Or.inl (hw _ (List.mem_of_getElem? (i := 48) rfl))) (Or.inl (hw _ (List.mem_of_getElem? (i := 38) rfl))) (by decide) (t := .int) (t' := .int) (by decide) (by decide))), All.other W (by omega), Alf.other W (by omega), Acf.other W (by omega), Acl.other W (by omega)⟩
theorem CM.flc {Z : State} {a0 : Array Value} {h h' : Heap} (hw : ∀ d ∈ tables_1, d.before a0 Z = true) {n0 : Nat} {o ll lf cf cl : Nat} {gll : Nat → Nat} {flf fcf : Nat → Int32} {gcl : Nat → Nat} {cc lc kc : Nat} {x : Nat} (H : CM Z h n0 o ll lf cf cl gll flf fcf gcl cc lc kc) (W : Wr h h' o (Jvm.RoadKit.slotOf Z "com/example/rackweave/rackweave/core/ChangeMarks" "loweredCount" "I") (.int (Int32.ofNat x))) : CM Z h' n0 o ll lf cf cl gll flf fcf gcl cc x kc := by
  obtain ⟨⟨o1, o2, o3, o4, o5⟩, hz, Ex, Fll, Flf, Fcf, Fcl, Fcc, Flc, Fkc, All, Alf, Acf, Acl⟩ := H
  exact ⟨⟨o1, o2, o3, o4, o5⟩, by rw [Wr.size W]; exact hz, Ex.wr W, Fll.other W (Or.inr (slot_ne (Or.inl (hw _ (List.mem_of_getElem? (i := 20) rfl))) (Or.inl (hw _ (List.mem_of_getElem? (i := 41) rfl))) (by decide) (t := (.array .int)) (t' := .int) (by decide) (by decide))), Flf.other W (Or.inr (slot_ne (Or.inl (hw _ (List.mem_of_getElem? (i := 22) rfl))) (Or.inl (hw _ (List.mem_of_getElem? (i := 41) rfl))) (by decide) (t := (.array .int)) (t' := .int) (by decide) (by decide))), Fcf.other W (Or.inr (slot_ne (Or.inr (hw _ (List.mem_of_getElem? (i := 24) rfl))) (Or.inl (hw _ (List.mem_of_getElem? (i := 41) rfl))) (by decide) (t := (.array .int)) (t' := .int) (by decide) (by decide))), Fcl.other W (Or.inr (slot_ne (Or.inr (hw _ (List.mem_of_getElem? (i := 31) rfl))) (Or.inl (hw _ (List.mem_of_getElem? (i := 41) rfl))) (by decide) (t := (.array .int)) (t' := .int) (by decide) (by decide))), Fcc.other W (Or.inr (slot_ne (Or.inl (hw _ (List.mem_of_getElem? (i := 38) rfl))) (Or.inl (hw _ (List.mem_of_getElem? (i := 41) rfl))) (by decide) (t := .int) (t' := .int) (by decide) (by decide))), Flc.same W, Fkc.other W (Or.inr (slot_ne (Or.inl (hw _ (List.mem_of_getElem? (i := 48) rfl))) (Or.inl (hw _ (List.mem_of_getElem? (i := 41) rfl))) (by decide) (t := .int) (t' := .int) (by decide) (by decide))), All.other W (by omega), Alf.other W (by omega), Acf.other W (by omega), Acl.other W (by omega)⟩
theorem CM.fkc {Z : State} {a0 : Array Value} {h h' : Heap} (hw : ∀ d ∈ tables_1, d.before a0 Z = true) {n0 : Nat} {o ll lf cf cl : Nat} {gll : Nat → Nat} {flf fcf : Nat → Int32} {gcl : Nat → Nat} {cc lc kc : Nat} {x : Nat} (H : CM Z h n0 o ll lf cf cl gll flf fcf gcl cc lc kc) (W : Wr h h' o (Jvm.RoadKit.slotOf Z "com/example/rackweave/rackweave/core/ChangeMarks" "keptCount" "I") (.int (Int32.ofNat x))) : CM Z h' n0 o ll lf cf cl gll flf fcf gcl cc lc x := by
  obtain ⟨⟨o1, o2, o3, o4, o5⟩, hz, Ex, Fll, Flf, Fcf, Fcl, Fcc, Flc, Fkc, All, Alf, Acf, Acl⟩ := H
  exact ⟨⟨o1, o2, o3, o4, o5⟩, by rw [Wr.size W]; exact hz, Ex.wr W, Fll.other W (Or.inr (slot_ne (Or.inl (hw _ (List.mem_of_getElem? (i := 20) rfl))) (Or.inl (hw _ (List.mem_of_getElem? (i := 48) rfl))) (by decide) (t := (.array .int)) (t' := .int) (by decide) (by decide))), Flf.other W (Or.inr (slot_ne (Or.inl (hw _ (List.mem_of_getElem? (i := 22) rfl))) (Or.inl (hw _ (List.mem_of_getElem? (i := 48) rfl))) (by decide) (t := (.array .int)) (t' := .int) (by decide) (by decide))), Fcf.other W (Or.inr (slot_ne (Or.inr (hw _ (List.mem_of_getElem? (i := 24) rfl))) (Or.inl (hw _ (List.mem_of_getElem? (i := 48) rfl))) (by decide) (t := (.array .int)) (t' := .int) (by decide) (by decide))), Fcl.other W (Or.inr (slot_ne (Or.inr (hw _ (List.mem_of_getElem? (i := 31) rfl))) (Or.inl (hw _ (List.mem_of_getElem? (i := 48) rfl))) (by decide) (t := (.array .int)) (t' := .int) (by decide) (by decide))), Fcc.other W (Or.inr (slot_ne (Or.inl (hw _ (List.mem_of_getElem? (i := 38) rfl))) (Or.inl (hw _ (List.mem_of_getElem? (i := 48) rfl))) (by decide) (t := .int) (t' := .int) (by decide) (by decide))), Flc.other W (Or.inr (slot_ne (Or.inl (hw _ (List.mem_of_getElem? (i := 41) rfl))) (Or.inl (hw _ (List.mem_of_getElem? (i := 48) rfl))) (by decide) (t := .int) (t' := .int) (by decide) (by decide))), Fkc.same W, All.other W (by omega), Alf.other W (by omega), Acf.other W (by omega), Acl.other W (by omega)⟩
theorem d1_0 : decode method_2_code 0 = .ok (.iload_n 0, 1) := by decide +kernel
theorem d1_1 : decode method_2_code 1 = .ok (.ldc 9, 2) := by decide +kernel
theorem d1_3 : decode method_2_code 3 = .ok (.if_icmp .ne 9, 3) := by decide +kernel
theorem d1_6 : decode method_2_code 6 = .ok (.iload_n 0, 1) := by decide +kernel
theorem d1_7 : decode method_2_code 7 = .ok (.iconst 1, 1) := by decide +kernel
theorem d1_8 : decode method_2_code 8 = .ok (.isub, 1) := by decide +kernel
theorem d1_9 : decode method_2_code 9 = .ok (.goto 4, 3) := by decide +kernel
theorem d1_12 : decode method_2_code 12 = .ok (.iload_n 0, 1) := by decide +kernel
theorem d1_13 : decode method_2_code 13 = .ok (.ireturn, 1) := by decide +kernel
theorem pn_1 : plainName "com/example/rackweave/rackweave/core/ChangeMarksRestorePinLaw" = true := by first | (simp [plainName, overriddenIn]; done) | decide +kernel
theorem ef_1 (m : MethodId) (x0 : Int32) : entryFrame m #[(.int x0)] 1 = mkF m 0 #[.val (.int x0)] [] := by first | (simp [entryFrame, mkF, argsToLocals, Value.category]; done) | rfl
def Q1 (x : Int32) (h0 : Heap) (n0 : Nat) (v : Option Value) (h : Heap) (L : List Loc) : Prop := ∃ z : Int32, v = some (.int z) ∧ Fr n0 L ∧ h = h0 ∧ z ≠ (2147483647 : Int32)
set_option maxRecDepth 65536 in
set_option maxHeartbeats 40000000 in
theorem rm1 (l : Launch) (Z : State) (a0 : Array Value) (hw : ∀ d ∈ tables_1, d.before a0 Z = true) (ws : List Jvm.Cond) (x : Int32) (h0 : Heap) (n0 : Nat) :
    Meets l Z (⟨"com/example/rackweave/rackweave/core/ChangeMarksRestorePinLaw", "rank", "(I)I"⟩ : MethodName) method_2_code 1 (some .int) ws ({ frames := 0, cells := 0, slots := 0, locals := 0 } : Room) #[(.int x)] h0 0 0 (Q1 x h0 n0) := by
  refine own_meets (plainFor_of_name pn_1) ?_
  intro p e s m below meth c s₁ hx hZ hby hml hown hnm hret hlk X0 e0
  have hown : s.vm.findClass "com/example/rackweave/rackweave/core/ChangeMarksRestorePinLaw" = some m.cls := hown
  have hnm : meth.name = "rank" := hnm
  refine own_finN (l := l) (R := ({ frames := 0, cells := 0, slots := 0, locals := 0 } : Room)) (m := m) (args := #[(.int x)]) (c := c) (by simp) hx hret hlk ?_
  refine own_cast (ef_1 m x) ?_
  refine own_st (g1 := (mkF m 1 #[.val (.int x)] [(.int x)])) (fun zt zk => XS.iloadN X0.here hx rfl (hb hby d1_0) rfl zk) ?_
  refine own_st (g1 := (mkF m 3 #[.val (.int x)] [(.int (2147483647 : Int32)), (.int x)])) (X0.ldcInt hx hown (mvT hZ (hw _ (List.mem_of_getElem? (i := 4) rfl))) (g := (mkF m 1 #[.val (.int x)] [(.int x)])) rfl (hb hby d1_1)) ?_
  by_cases hm : x = (2147483647 : Int32)
  · refine own_st (g1 := (mkF m 6 #[.val (.int x)] [])) (fun zt zk => XS.icmpNo X0.here hx rfl (hb hby d1_3) rfl (teq hm).2 zk) ?_
    refine own_st (g1 := (mkF m 7 #[.val (.int x)] [(.int x)])) (fun zt zk => XS.iloadN X0.here hx rfl (hb hby d1_6) rfl zk) ?_
    refine own_st (g1 := (mkF m 8 #[.val (.int x)] [(.int (1 : Int32)), (.int x)])) (fun zt zk => XS.iconst X0.here hx rfl (hb hby d1_7) zk) ?_
    refine own_st (g1 := (mkF m 9 #[.val (.int x)] [(.int (x - (1 : Int32)))])) (fun zt zk => XS.isub X0.here hx rfl (hb hby d1_8) rfl zk) ?_
    refine own_st (g1 := (mkF m 13 #[.val (.int x)] [(.int (x - (1 : Int32)))])) (fun zt zk => XS.goto X0.here hx rfl (pc0 := 9) (pc' := 13) rfl (hb hby d1_9) (by decide) (by decide) zk) ?_
    exact own_here X0 ⟨13, _, _, rfl, (hb hby d1_13), rfl, (by decide), (by decide), (by rw [e0]; exact ⟨_, rfl, Fr.nil n0, rfl, by rw [hm]; decide⟩)⟩
  · refine own_st (g1 := (mkF m 12 #[.val (.int x)] [])) (fun zt zk => XS.icmpYes X0.here hx rfl (pc0 := 3) (pc' := 12) rfl (hb hby d1_3) rfl (feq hm).2 (by decide) (by decide) zk) ?_
    refine own_st (g1 := (mkF m 13 #[.val (.int x)] [(.int x)])) (fun zt zk => XS.iloadN X0.here hx rfl (hb hby d1_12) rfl zk) ?_
    exact own_here X0 ⟨13, _, _, rfl, (hb hby d1_13), rfl, (by decide), (by decide), (by rw [e0]; exact ⟨_, rfl, Fr.nil n0, rfl, hm⟩)⟩
theorem d2_0 : decode jdk_29_method_69_code 0 = .ok (.iload_n 0, 1) := by decide +kernel
theorem d2_1 : decode jdk_29_method_69_code 1 = .ok (.iload_n 1, 1) := by decide +kernel
theorem d2_2 : decode jdk_29_method_69_code 2 = .ok (.if_icmp .gt 7, 3) := by decide +kernel
theorem d2_5 : decode jdk_29_method_69_code 5 = .ok (.iload_n 0, 1) := by decide +kernel
theorem d2_6 : decode jdk_29_method_69_code 6 = .ok (.goto 4, 3) := by decide +kernel
theorem d2_9 : decode jdk_29_method_69_code 9 = .ok (.iload_n 1, 1) := by decide +kernel
theorem d2_10 : decode jdk_29_method_69_code 10 = .ok (.ireturn, 1) := by decide +kernel
theorem ef_2 (m : MethodId) (x0 : Int32) (x1 : Int32) : entryFrame m #[(.int x0), (.int x1)] 2 = mkF m 0 #[.val (.int x0), .val (.int x1)] [] := by first | (simp [entryFrame, mkF, argsToLocals, Value.category]; done) | rfl
def Q2 (x y : Int32) (h0 : Heap) (n0 : Nat) (v : Option Value) (h : Heap) (L : List Loc) : Prop := v = some (.int (own_min x y)) ∧ Fr n0 L ∧ h = h0
set_option maxRecDepth 65536 in
set_option maxHeartbeats 40000000 in
theorem rm2 (l : Launch) (Z : State) (a0 : Array Value) (hw : ∀ d ∈ tables_1, d.before a0 Z = true) (ws : List Jvm.Cond) (x y : Int32) (h0 : Heap) (n0 : Nat) :
    Meets l Z (⟨"java/lang/Math", "min", "(II)I"⟩ : MethodName) jdk_29_method_69_code 2 (some .int) ws ({ frames := 0, cells := 0, slots := 0, locals := 0 } : Room) #[(.int x), (.int y)] h0 0 0 (Q2 x y h0 n0) := by
  refine own_meets (Jvm.Free.JP.mathPlain rfl (by decide +kernel)) ?_
  intro p e s m below meth c s₁ hx hZ hby hml hown hnm hret hlk X0 e0
  have hown : s.vm.findClass "java/lang/Math" = some m.cls := hown
  have hnm : meth.name = "min" := hnm
  refine own_finN (l := l) (R := ({ frames := 0, cells := 0, slots := 0, locals := 0 } : Room)) (m := m) (args := #[(.int x), (.int y)]) (c := c) (by simp) hx hret hlk ?_
  refine own_cast (ef_2 m x y) ?_
  refine own_st (g1 := (mkF m 1 #[.val (.int x), .val (.int y)] [(.int x)])) (fun zt zk => XS.iloadN X0.here hx rfl (hb hby d2_0) rfl zk) ?_
  refine own_st (g1 := (mkF m 2 #[.val (.int x), .val (.int y)] [(.int y), (.int x)])) (fun zt zk => XS.iloadN X0.here hx rfl (hb hby d2_1) rfl zk) ?_
  by_cases hm : y < x
  · refine own_st (g1 := (mkF m 9 #[.val (.int x), .val (.int y)] [])) (fun zt zk => XS.icmpYes X0.here hx rfl (pc0 := 2) (pc' := 9) rfl (hb hby d2_2) rfl (tlt hm).2.2.1 (by decide) (by decide) zk) ?_
    refine own_st (g1 := (mkF m 10 #[.val (.int x), .val (.int y)] [(.int y)])) (fun zt zk => XS.iloadN X0.here hx rfl (hb hby d2_9) rfl zk) ?_
    have hq : own_min x y = y := if_pos hm
    exact own_here X0 ⟨10, _, _, rfl, (hb hby d2_10), rfl, (by decide), (by decide), (by rw [e0]; exact ⟨by rw [hq], Fr.nil n0, rfl⟩)⟩
  · refine own_st (g1 := (mkF m 5 #[.val (.int x), .val (.int y)] [])) (fun zt zk => XS.icmpNo X0.here hx rfl (hb hby d2_2) rfl (flt hm).2.2.1 zk) ?_
    refine own_st (g1 := (mkF m 6 #[.val (.int x), .val (.int y)] [(.int x)])) (fun zt zk => XS.iloadN X0.here hx rfl (hb hby d2_5) rfl zk) ?_
    refine own_st (g1 := (mkF m 10 #[.val (.int x), .val (.int y)] [(.int x)])) (fun zt zk => XS.goto X0.here hx rfl (pc0 := 6) (pc' := 10) rfl (hb hby d2_6) (by decide) (by decide) zk) ?_
    have hq : own_min x y = x := if_neg hm
    exact own_here X0 ⟨10, _, _, rfl, (hb hby d2_10), rfl, (by decide), (by decide), (by rw [e0]; exact ⟨by rw [hq], Fr.nil n0, rfl⟩)⟩
theorem d5_0 : decode jdk_65_method_103_code 0 = .ok (.iconst 0, 1) := by decide +kernel
theorem d5_1 : decode jdk_65_method_103_code 1 = .ok (.istore_n 2, 1) := by decide +kernel
theorem d5_2 : decode jdk_65_method_103_code 2 = .ok (.aload_n 0, 1) := by decide +kernel
theorem d5_3 : decode jdk_65_method_103_code 3 = .ok (.arraylength, 1) := by decide +kernel
theorem d5_4 : decode jdk_65_method_103_code 4 = .ok (.istore_n 3, 1) := by decide +kernel
theorem d5_5 : decode jdk_65_method_103_code 5 = .ok (.iload_n 2, 1) := by decide +kernel
theorem d5_6 : decode jdk_65_method_103_code 6 = .ok (.iload_n 3, 1) := by decide +kernel
theorem d5_7 : decode jdk_65_method_103_code 7 = .ok (.if_icmp .ge 13, 3) := by decide +kernel
theorem d5_10 : decode jdk_65_method_103_code 10 = .ok (.aload_n 0, 1) := by decide +kernel
theorem d5_11 : decode jdk_65_method_103_code 11 = .ok (.iload_n 2, 1) := by decide +kernel
theorem d5_12 : decode jdk_65_method_103_code 12 = .ok (.iload_n 1, 1) := by decide +kernel
theorem d5_13 : decode jdk_65_method_103_code 13 = .ok (.iastore, 1) := by decide +kernel
theorem d5_14 : decode jdk_65_method_103_code 14 = .ok (.iinc 2 1, 3) := by decide +kernel
theorem d5_17 : decode jdk_65_method_103_code 17 = .ok (.goto (-12), 3) := by decide +kernel
theorem d5_20 : decode jdk_65_method_103_code 20 = .ok (.return_, 1) := by decide +kernel
theorem pn_5 : plainName "java/util/Arrays" = true := by first | (simp [plainName, overriddenIn]; done) | decide +kernel
theorem ef_5 (m : MethodId) (x0 : Nat) (x1 : Int32) : entryFrame m #[(.ref x0), (.int x1)] 4 = mkF m 0 #[.val (.ref x0), .val (.int x1), .unset, .unset] [] := by first | (simp [entryFrame, mkF, argsToLocals, Value.category]; done) | rfl
set_option maxRecDepth 65536 in
set_option maxHeartbeats 40000000 in
theorem loop5 {p : Program} {l : Launch} {e : Env} {R : Room} {s : State} {m : MethodId} {args : Array Value} {below : List Frame} {meth : Method} {c : Code} {Z : State} {a0 : Array Value} (hx : p.tables.exec = Jvm.exec) (hZ : Z.Warmed39 s.vm) (hw : ∀ d ∈ tables_1, d.before a0 Z = true) (hby : c.code = jdk_65_method_103_code) (hml : c.maxLocals = 4) (hown : s.vm.findClass "java/util/Arrays" = some m.cls) (hnm : meth.name = "fill") (a : Nat) (x : Int32) (h0 : Heap) (n0 : Nat) (ga : n0 ≤ a) {cells slots : Nat} :
    ∀ (k i : Nat) (f : Nat → Int32) (T0 : State) (L0 : List Loc) (h : Heap), i + k = 3 → Stand p l e R s m args below meth c T0 L0 cells slots → T0.heap = h → Fr n0 L0 → Keep h0 h [a] → VA Z h a .int 3 (fun j => .int (f j)) → (∀ j, j < i → f j = x) →
      Goes p l e R s m args below meth c T0 (mkF m 5 #[.val (.ref a), .val (.int x), .val (.int (Int32.ofNat i)), .val (.int (3 : Int32))] []) (fun T' L' k' n' g' => k' = cells ∧ n' = slots ∧ g' = (mkF m 20 #[.val (.ref a), .val (.int x), .val (.int (Int32.ofNat 3)), .val (.int (3 : Int32))] []) ∧ Fr n0 L' ∧ Keep h0 T'.heap [a] ∧ VA Z T'.heap a .int 3 (fun _ => .int x)) := by
  intro k
  induction k with
  | zero =>
    intro i f T0 L0 h hik X e0 N K V hf
    have hi3 : i = 3 := by omega
    subst hi3
    refine own_st (g1 := (mkF m 6 #[.val (.ref a), .val (.int x), .val (.int (Int32.ofNat 3)), .val (.int (3 : Int32))] [(.int (Int32.ofNat 3))])) (fun zt zk => XS.iloadN X.here hx rfl (hb hby d5_5) rfl zk) ?_
    refine own_st (g1 := (mkF m 7 #[.val (.ref a), .val (.int x), .val (.int (Int32.ofNat 3)), .val (.int (3 : Int32))] [(.int (3 : Int32)), (.int (Int32.ofNat 3))])) (fun zt zk => XS.iloadN X.here hx rfl (hb hby d5_6) rfl zk) ?_
    refine own_st (g1 := (mkF m 20 #[.val (.ref a), .val (.int x), .val (.int (Int32.ofNat 3)), .val (.int (3 : Int32))] [])) (fun zt zk => XS.icmpYes X.here hx rfl (pc0 := 7) (pc' := 20) rfl (hb hby d5_7) rfl (flt (by decide)).2.1 (by decide) (by decide) zk) ?_
    exact own_here X ⟨rfl, rfl, rfl, N, by rw [e0]; exact K, by rw [e0]; exact V.congr (fun j hj => by rw [hf j hj])⟩
  | succ k ih =>
    intro i f T0 L0 h hik X e0 N K V hf
    refine own_st (g1 := (mkF m 6 #[.val (.ref a), .val (.int x), .val (.int (Int32.ofNat i)), .val (.int (3 : Int32))] [(.int (Int32.ofNat i))])) (fun zt zk => XS.iloadN X.here hx rfl (hb hby d5_5) rfl zk) ?_
    refine own_st (g1 := (mkF m 7 #[.val (.ref a), .val (.int x), .val (.int (Int32.ofNat i)), .val (.int (3 : Int32))] [(.int (3 : Int32)), (.int (Int32.ofNat i))])) (fun zt zk => XS.iloadN X.here hx rfl (hb hby d5_6) rfl zk) ?_
    refine own_st (g1 := (mkF m 10 #[.val (.ref a), .val (.int x), .val (.int (Int32.ofNat i)), .val (.int (3 : Int32))] [])) (fun zt zk => XS.icmpNo X.here hx rfl (hb hby d5_7) rfl (tlt ((own_lt (i := i) (j := 3) (by omega) (by omega)).mpr (by omega))).2.1 zk) ?_
    refine own_st (g1 := (mkF m 11 #[.val (.ref a), .val (.int x), .val (.int (Int32.ofNat i)), .val (.int (3 : Int32))] [(.ref a)])) (fun zt zk => XS.aloadN X.here hx rfl (hb hby d5_10) rfl rfl zk) ?_
    refine own_st (g1 := (mkF m 12 #[.val (.ref a), .val (.int x), .val (.int (Int32.ofNat i)), .val (.int (3 : Int32))] [(.int (Int32.ofNat i)), (.ref a)])) (fun zt zk => XS.iloadN X.here hx rfl (hb hby d5_11) rfl zk) ?_
    refine own_st (g1 := (mkF m 13 #[.val (.ref a), .val (.int x), .val (.int (Int32.ofNat i)), .val (.int (3 : Int32))] [(.int x), (.int (Int32.ofNat i)), (.ref a)])) (fun zt zk => XS.iloadN X.here hx rfl (hb hby d5_12) rfl zk) ?_
    obtain ⟨T1, h1, X1, e1, W1, st1⟩ := own_ist X hx hZ e0 V (j := i) rfl (by omega) (by decide) (g := (mkF m 13 #[.val (.ref a), .val (.int x), .val (.int (Int32.ofNat i)), .val (.int (3 : Int32))] [(.int x), (.int (Int32.ofNat i)), (.ref a)])) rfl rfl (hb hby d5_13)
    refine own_st (g1 := (mkF m 14 #[.val (.ref a), .val (.int x), .val (.int (Int32.ofNat i)), .val (.int (3 : Int32))] [])) (st1) ?_
    refine own_st (g1 := (mkF m 17 #[.val (.ref a), .val (.int x), .val (.int ((Int32.ofNat i) + (1 : Int32))), .val (.int (3 : Int32))] [])) (fun zt zk => XS.iinc X1.here hx rfl (hb hby d5_14) rfl (l' := #[.val (.ref a), .val (.int x), .val (.int ((Int32.ofNat i) + (1 : Int32))), .val (.int (3 : Int32))]) rfl zk) ?_
    rw [own_succ i]
    refine own_st (g1 := (mkF m 5 #[.val (.ref a), .val (.int x), .val (.int (Int32.ofNat (i + 1))), .val (.int (3 : Int32))] [])) (fun zt zk => XS.goto X1.here hx rfl (pc0 := 17) (pc' := 5) rfl (hb hby d5_17) (by decide) (by decide) zk) ?_
    exact ih (i + 1) (upd f i x) T1 _ h1 (by omega) X1 e1 (Fr.snoc X1 N ga) (K.wr W1 (Or.inl (List.mem_of_getElem? (i := 0) rfl))) (V.setI W1) (fun j hj => by
      by_cases q : j = i
      · subst q; exact if_pos rfl
      · exact (if_neg q).trans (hf j (by omega)))
def Q5 (Z : State) (a : Nat) (x : Int32) (h0 : Heap) (n0 : Nat) (v : Option Value) (h : Heap) (L : List Loc) : Prop := v = none ∧ Fr n0 L ∧ Keep h0 h [a] ∧ VA Z h a .int 3 (fun _ => .int x)
set_option maxRecDepth 65536 in
set_option maxHeartbeats 40000000 in
theorem rm5 (l : Launch) (Z : State) (a0 : Array Value) (hw : ∀ d ∈ tables_1, d.before a0 Z = true) (ws : List Jvm.Cond) (a : Nat) (x : Int32) (f : Nat → Int32) (h0 : Heap) (n0 : Nat) (ga : n0 ≤ a) (V : VA Z h0 a .int 3 (fun j => .int (f j))) :
    Meets l Z (⟨"java/util/Arrays", "fill", "([II)V"⟩ : MethodName) jdk_65_method_103_code 4 none ws ({ frames := 0, cells := 0, slots := 0, locals := 0 } : Room) #[(.ref a), (.int x)] h0 0 0 (Q5 Z a x h0 n0) := by
  refine own_meets (plainFor_of_name pn_5) ?_
  intro p e s m below meth c s₁ hx hZ hby hml hown hnm hret hlk X0 e0
  have hown : s.vm.findClass "java/util/Arrays" = some m.cls := hown
  have hnm : meth.name = "fill" := hnm
  refine own_finV (l := l) (R := ({ frames := 0, cells := 0, slots := 0, locals := 0 } : Room)) (m := m) (args := #[(.ref a), (.int x)]) (c := c) hx hret hlk ?_
  refine own_cast (ef_5 m a x) ?_
  refine own_st (g1 := (mkF m 1 #[.val (.ref a), .val (.int x), .unset, .unset] [(.int (0 : Int32))])) (fun zt zk => XS.iconst X0.here hx rfl (hb hby d5_0) zk) ?_
  refine own_st (g1 := (mkF m 2 #[.val (.ref a), .val (.int x), .val (.int (0 : Int32)), .unset] [])) (fun zt zk => XS.istoreN X0.here hx rfl (hb hby d5_1) rfl (l' := #[.val (.ref a), .val (.int x), .val (.int (0 : Int32)), .unset]) rfl zk) ?_
  refine own_st (g1 := (mkF m 3 #[.val (.ref a), .val (.int x), .val (.int (0 : Int32)), .unset] [(.ref a)])) (fun zt zk => XS.aloadN X0.here hx rfl (hb hby d5_2) rfl rfl zk) ?_
  refine own_st (g1 := (mkF m 4 #[.val (.ref a), .val (.int x), .val (.int (0 : Int32)), .unset] [(.int (3 : Int32))])) (own_len X0 hx hZ e0 V (N := (3 : Int32)) rfl (g := (mkF m 3 #[.val (.ref a), .val (.int x), .val (.int (0 : Int32)), .unset] [(.ref a)])) rfl rfl (hb hby d5_3)) ?_
  refine own_st (g1 := (mkF m 5 #[.val (.ref a), .val (.int x), .val (.int (0 : Int32)), .val (.int (3 : Int32))] [])) (fun zt zk => XS.istoreN X0.here hx rfl (hb hby d5_4) rfl (l' := #[.val (.ref a), .val (.int x), .val (.int (0 : Int32)), .val (.int (3 : Int32))]) rfl zk) ?_
  refine own_bind (loop5 hx hZ hw hby hml hown hnm a x h0 n0 ga 3 0 f s₁ [] h0 (by decide) X0 e0 (Fr.nil n0) (Keep.refl h0 [a]) V (fun j hj => by omega)) ?_
  rintro T' L' k' n' g' X' ⟨rfl, rfl, rfl, r4, r5, r6⟩
  exact own_here X' ⟨20, _, rfl, (hb hby d5_20), (by decide), (by decide), ⟨rfl, r4, r5, r6⟩⟩
theorem d3_0 : decode prog_16_method_1_code 0 = .ok (.aload_n 0, 1) := by decide +kernel
theorem d3_1 : decode prog_16_method_1_code 1 = .ok (.invokespecial 1, 3) := by decide +kernel
theorem d3_4 : decode prog_16_method_1_code 4 = .ok (.aload_n 0, 1) := by decide +kernel
theorem d3_5 : decode prog_16_method_1_code 5 = .ok (.bipush 16, 2) := by decide +kernel
theorem d3_7 : decode prog_16_method_1_code 7 = .ok (.newarray .int, 2) := by decide +kernel
theorem d3_9 : decode prog_16_method_1_code 9 = .ok (.putfield 7, 3) := by decide +kernel
theorem d3_12 : decode prog_16_method_1_code 12 = .ok (.aload_n 0, 1) := by decide +kernel
theorem d3_13 : decode prog_16_method_1_code 13 = .ok (.bipush 16, 2) := by decide +kernel
theorem d3_15 : decode prog_16_method_1_code 15 = .ok (.newarray .int, 2) := by decide +kernel
theorem d3_17 : decode prog_16_method_1_code 17 = .ok (.putfield 13, 3) := by decide +kernel
theorem d3_20 : decode prog_16_method_1_code 20 = .ok (.aload_n 0, 1) := by decide +kernel
theorem d3_21 : decode prog_16_method_1_code 21 = .ok (.iload_n 1, 1) := by decide +kernel
theorem d3_22 : decode prog_16_method_1_code 22 = .ok (.newarray .int, 2) := by decide +kernel
theorem d3_24 : decode prog_16_method_1_code 24 = .ok (.putfield 16, 3) := by decide +kernel
theorem d3_27 : decode prog_16_method_1_code 27 = .ok (.aload_n 0, 1) := by decide +kernel
theorem d3_28 : decode prog_16_method_1_code 28 = .ok (.getfield 16, 3) := by decide +kernel
theorem d3_31 : decode prog_16_method_1_code 31 = .ok (.ldc 21, 2) := by decide +kernel
theorem d3_33 : decode prog_16_method_1_code 33 = .ok (.invokestatic 22, 3) := by decide +kernel
theorem d3_36 : decode prog_16_method_1_code 36 = .ok (.aload_n 0, 1) := by decide +kernel
theorem d3_37 : decode prog_16_method_1_code 37 = .ok (.iload_n 1, 1) := by decide +kernel
theorem d3_38 : decode prog_16_method_1_code 38 = .ok (.newarray .int, 2) := by decide +kernel
theorem d3_40 : decode prog_16_method_1_code 40 = .ok (.putfield 28, 3) := by decide +kernel
theorem d3_43 : decode prog_16_method_1_code 43 = .ok (.return_, 1) := by decide +kernel
theorem pn_3 : plainName "com/example/rackweave/rackweave/core/ChangeMarks" = true := by first | (simp [plainName, overriddenIn]; done) | decide +kernel
theorem ef_3 (m : MethodId) (x0 : Nat) (x1 : Int32) : entryFrame m #[(.ref x0), (.int x1)] 2 = mkF m 0 #[.val (.ref x0), .val (.int x1)] [] := by first | (simp [entryFrame, mkF, argsToLocals, Value.category]; done) | rfl
def Q3 (Z : State) (o : Nat) (h0 : Heap) (n0 : Nat) (v : Option Value) (h : Heap) (L : List Loc) : Prop := ∃ ll lf cf cl : Nat, v = none ∧ Fr n0 L ∧ h0.size ≤ ll ∧ Keep h0 h [o] ∧ CM Z h n0 o ll lf cf cl (fun _ => 0) (fun _ => 0) (fun _ => (2147483647 : Int32)) (fun _ => 0) 0 0 0
set_option maxRecDepth 65536 in
set_option maxHeartbeats 40000000 in
theorem rm3 (l : Launch) (Z : State) (a0 : Array Value) (hw : ∀ d ∈ tables_1, d.before a0 Z = true) (ws : List Jvm.Cond) (o : Nat) (h0 : Heap) (n0 : Nat) (Z0 : n0 ≤ h0.size) (go : n0 ≤ o) (E : Exa Z h0 o "com/example/rackweave/rackweave/core/ChangeMarks") (Fll : Fld Z h0 o "com/example/rackweave/rackweave/core/ChangeMarks" "loweredLinks" "[I" .null) (Flf : Fld Z h0 o "com/example/rackweave/rackweave/core/ChangeMarks" "loweredFrom" "[I" .null) (Fcf : Fld Z h0 o "com/example/rackweave/rackweave/core/ChangeMarks" "changedFrom" "[I" .null) (Fcl : Fld Z h0 o "com/example/rackweave/rackweave/core/ChangeMarks" "changedLinks" "[I" .null) (Fcc : Fld Z h0 o "com/example/rackweave/rackweave/core/ChangeMarks" "changedCount" "I" (.int (0 : Int32))) (Flc : Fld Z h0 o "com/example/rackweave/rackweave/core/ChangeMarks" "loweredCount" "I" (.int (0 : Int32))) (Fkc : Fld Z h0 o "com/example/rackweave/rackweave/core/ChangeMarks" "keptCount" "I" (.int (0 : Int32))) :
    Meets l Z (⟨"com/example/rackweave/rackweave/core/ChangeMarks", "<init>", "(I)V"⟩ : MethodName) prog_16_method_1_code 2 none ws ({ frames := 1, cells := 4, slots := 38, locals := 15 } : Room) #[(.ref o), (.int (3 : Int32))] h0 4 38 (Q3 Z o h0 n0) := by
  refine own_meets (plainFor_of_name pn_3) ?_
  intro p e s m below meth c s₁ hx hZ hby hml hown hnm hret hlk X0 e0
  have hown : s.vm.findClass "com/example/rackweave/rackweave/core/ChangeMarks" = some m.cls := hown
  have hnm : meth.name = "<init>" := hnm
  refine own_finV (l := l) (R := ({ frames := 1, cells := 4, slots := 38, locals := 15 } : Room)) (m := m) (args := #[(.ref o), (.int (3 : Int32))]) (c := c) hx hret hlk ?_
  refine own_cast (ef_3 m o (3 : Int32)) ?_
  refine own_st (g1 := (mkF m 1 #[.val (.ref o), .val (.int (3 : Int32))] [(.ref o)])) (fun zt zk => XS.aloadN X0.here hx rfl (hb hby d3_0) rfl rfl zk) ?_
  obtain ⟨T2, X2, e2, st2⟩ := initO X0 hx hZ hown (hw _ (List.mem_of_getElem? (i := 16) rfl)) (hw _ (List.mem_of_getElem? (i := 17) rfl)) (hw _ (List.mem_of_getElem? (i := 18) rfl)) e0 (g := (mkF m 1 #[.val (.ref o), .val (.int (3 : Int32))] [(.ref o)])) rfl (by rw [hml]; rfl) rfl (hb hby d3_1) (by decide) (W := 0) (by show 2 * 0 + _ ≤ _; exact Nat.le_of_eq rfl) (by decide)
  refine own_st (g1 := (mkF m 4 #[.val (.ref o), .val (.int (3 : Int32))] [])) (st2) ?_
  have hol := own_el E
  refine own_st (g1 := (mkF m 5 #[.val (.ref o), .val (.int (3 : Int32))] [(.ref o)])) (fun zt zk => XS.aloadN X2.here hx rfl (hb hby d3_4) rfl rfl zk) ?_
  refine own_st (g1 := (mkF m 7 #[.val (.ref o), .val (.int (3 : Int32))] [(.int (16 : Int32)), (.ref o)])) (fun zt zk => XS.bipush X2.here hx rfl (hb hby d3_5) zk) ?_
  obtain ⟨T3, h3, k3, X3, e3, E3, A3, st3⟩ := newP X2 hx hZ (hw _ (List.mem_of_getElem? (i := 5) rfl)) e2 (g := (mkF m 7 #[.val (.ref o), .val (.int (3 : Int32))] [(.int (16 : Int32)), (.ref o)])) rfl (hb hby d3_7) rfl (by decide) (cap := 16) (by decide) (by decide) (by decide) (by decide)
  obtain ⟨b3, g3⟩ : ∃ z, z = h0.size := ⟨_, rfl⟩
  rw [← g3] at A3 st3
  refine own_st (g1 := (mkF m 9 #[.val (.ref o), .val (.int (3 : Int32))] [(.ref b3), (.ref o)])) (st3) ?_
  have A_ll : VA Z h3 b3 .int 16 (fun _ => .int (0 : Int32)) := VA.new A3 rfl
  have l1 : o < b3 := by omega
  have s1 : h0.size ≤ b3 := by omega
  have Fll_p3 := (Fll.ext E3)
  have Flf_p3 := (Flf.ext E3)
  have Fcf_p3 := (Fcf.ext E3)
  have Fcl_p3 := (Fcl.ext E3)
  have Fcc_p3 := (Fcc.ext E3)
  have Flc_p3 := (Flc.ext E3)
  have Fkc_p3 := (Fkc.ext E3)
  have E_p3 := (E.ext E3)
  have K_p3 := ((Keep.refl h0 [o]).ext E3)
  have Z_p3 := (Nat.le_trans Z0 E3.1)
  have N_p3 := (Fr.nil n0)
  have A_ll_p3 := A_ll
  obtain ⟨T4, h4, X4, e4, W4, st4⟩ := putF X3 hx hZ hown (host := "") (Or.inl (hw _ (List.mem_of_getElem? (i := 19) rfl))) Via.refl e3 Fll_p3 E_p3 (Or.inl (hw _ (List.mem_of_getElem? (i := 20) rfl))) (hw _ (List.mem_of_getElem? (i := 11) rfl)) (ty := (.array .int)) (by decide) rfl rfl (g := (mkF m 9 #[.val (.ref o), .val (.int (3 : Int32))] [(.ref b3), (.ref o)])) rfl rfl (hb hby d3_9)
  refine own_st (g1 := (mkF m 12 #[.val (.ref o), .val (.int (3 : Int32))] [])) (st4) ?_
  have Zq4 : n0 ≤ h4.size := (by rw [Wr.size W4]; exact Z_p3)
  have Fll_4 := Fll_p3.same W4
  have Flf_4 := Flf_p3.other W4 (Or.inr (slot_ne (Or.inl (hw _ (List.mem_of_getElem? (i := 22) rfl))) (Or.inl (hw _ (List.mem_of_getElem? (i := 20) rfl))) (by decide) (t := (.array .int)) (t' := (.array .int)) (by decide) (by decide)))
  have Fcf_4 := Fcf_p3.other W4 (Or.inr (slot_ne (Or.inr (hw _ (List.mem_of_getElem? (i := 24) rfl))) (Or.inl (hw _ (List.mem_of_getElem? (i := 20) rfl))) (by decide) (t := (.array .int)) (t' := (.array .int)) (by decide) (by decide)))
  have Fcl_4 := Fcl_p3.other W4 (Or.inr (slot_ne (Or.inr (hw _ (List.mem_of_getElem? (i := 31) rfl))) (Or.inl (hw _ (List.mem_of_getElem? (i := 20) rfl))) (by decide) (t := (.array .int)) (t' := (.array .int)) (by decide) (by decide)))
  have Fcc_4 := Fcc_p3.other W4 (Or.inr (slot_ne (Or.inl (hw _ (List.mem_of_getElem? (i := 38) rfl))) (Or.inl (hw _ (List.mem_of_getElem? (i := 20) rfl))) (by decide) (t := .int) (t' := (.array .int)) (by decide) (by decide)))
  have Flc_4 := Flc_p3.other W4 (Or.inr (slot_ne (Or.inl (hw _ (List.mem_of_getElem? (i := 41) rfl))) (Or.inl (hw _ (List.mem_of_getElem? (i := 20) rfl))) (by decide) (t := .int) (t' := (.array .int)) (by decide) (by decide)))
  have Fkc_4 := Fkc_p3.other W4 (Or.inr (slot_ne (Or.inl (hw _ (List.mem_of_getElem? (i := 48) rfl))) (Or.inl (hw _ (List.mem_of_getElem? (i := 20) rfl))) (by decide) (t := .int) (t' := (.array .int)) (by decide) (by decide)))
  have E_4 := E_p3.wr W4
  have K_4 := K_p3.wr W4 (Or.inl (List.mem_of_getElem? (i := 0) rfl))
  have Z_4 := Zq4
  have N_4 := Fr.snoc X4 N_p3 go
  have A_ll_4 := A_ll_p3.other W4 (by omega)
  refine own_st (g1 := (mkF m 13 #[.val (.ref o), .val (.int (3 : Int32))] [(.ref o)])) (fun zt zk => XS.aloadN X4.here hx rfl (hb hby d3_12) rfl rfl zk) ?_
  refine own_st (g1 := (mkF m 15 #[.val (.ref o), .val (.int (3 : Int32))] [(.int (16 : Int32)), (.ref o)])) (fun zt zk => XS.bipush X4.here hx rfl (hb hby d3_13) zk) ?_
  obtain ⟨T5, h5, k5, X5, e5, E5, A5, st5⟩ := newP X4 hx hZ (hw _ (List.mem_of_getElem? (i := 5) rfl)) e4 (g := (mkF m 15 #[.val (.ref o), .val (.int (3 : Int32))] [(.int (16 : Int32)), (.ref o)])) rfl (hb hby d3_15) rfl (by decide) (cap := 16) (by decide) (by decide) (by decide) (by decide)
  obtain ⟨b5, g5⟩ : ∃ z, z = h4.size := ⟨_, rfl⟩
  rw [← g5] at A5 st5
  refine own_st (g1 := (mkF m 17 #[.val (.ref o), .val (.int (3 : Int32))] [(.ref b5), (.ref o)])) (st5) ?_
  have A_lf : VA Z h5 b5 .int 16 (fun _ => .int (0 : Int32)) := VA.new A5 rfl
  have l2 : b3 < b5 := by have := A_ll_4.lt; omega
  have Fll_p5 := (Fll_4.ext E5)
  have Flf_p5 := (Flf_4.ext E5)
  have Fcf_p5 := (Fcf_4.ext E5)
  have Fcl_p5 := (Fcl_4.ext E5)
  have Fcc_p5 := (Fcc_4.ext E5)
  have Flc_p5 := (Flc_4.ext E5)
  have Fkc_p5 := (Fkc_4.ext E5)
  have E_p5 := (E_4.ext E5)
  have K_p5 := (K_4.ext E5)
  have Z_p5 := (Nat.le_trans Z_4 E5.1)
  have N_p5 := N_4
  have A_ll_p5 := (A_ll_4.ext E5)
  have A_lf_p5 := A_lf
  obtain ⟨T6, h6, X6, e6, W6, st6⟩ := putF X5 hx hZ hown (host := "") (Or.inl (hw _ (List.mem_of_getElem? (i := 21) rfl))) Via.refl e5 Flf_p5 E_p5 (Or.inl (hw _ (List.mem_of_getElem? (i := 22) rfl))) (hw _ (List.mem_of_getElem? (i := 11) rfl)) (ty := (.array .int)) (by decide) rfl rfl (g := (mkF m 17 #[.val (.ref o), .val (.int (3 : Int32))] [(.ref b5), (.ref o)])) rfl rfl (hb hby d3_17)
  refine own_st (g1 := (mkF m 20 #[.val (.ref o), .val (.int (3 : Int32))] [])) (st6) ?_
  have Zq6 : n0 ≤ h6.size := (by rw [Wr.size W6]; exact Z_p5)
  have Fll_6 := Fll_p5.other W6 (Or.inr (slot_ne (Or.inl (hw _ (List.mem_of_getElem? (i := 20) rfl))) (Or.inl (hw _ (List.mem_of_getElem? (i := 22) rfl))) (by decide) (t := (.array .int)) (t' := (.array .int)) (by decide) (by decide)))
  have Flf_6 := Flf_p5.same W6
  have Fcf_6 := Fcf_p5.other W6 (Or.inr (slot_ne (Or.inr (hw _ (List.mem_of_getElem? (i := 24) rfl))) (Or.inl (hw _ (List.mem_of_getElem? (i := 22) rfl))) (by decide) (t := (.array .int)) (t' := (.array .int)) (by decide) (by decide)))
  have Fcl_6 := Fcl_p5.other W6 (Or.inr (slot_ne (Or.inr (hw _ (List.mem_of_getElem? (i := 31) rfl))) (Or.inl (hw _ (List.mem_of_getElem? (i := 22) rfl))) (by decide) (t := (.array .int)) (t' := (.array .int)) (by decide) (by decide)))
  have Fcc_6 := Fcc_p5.other W6 (Or.inr (slot_ne (Or.inl (hw _ (List.mem_of_getElem? (i := 38) rfl))) (Or.inl (hw _ (List.mem_of_getElem? (i := 22) rfl))) (by decide) (t := .int) (t' := (.array .int)) (by decide) (by decide)))
  have Flc_6 := Flc_p5.other W6 (Or.inr (slot_ne (Or.inl (hw _ (List.mem_of_getElem? (i := 41) rfl))) (Or.inl (hw _ (List.mem_of_getElem? (i := 22) rfl))) (by decide) (t := .int) (t' := (.array .int)) (by decide) (by decide)))
  have Fkc_6 := Fkc_p5.other W6 (Or.inr (slot_ne (Or.inl (hw _ (List.mem_of_getElem? (i := 48) rfl))) (Or.inl (hw _ (List.mem_of_getElem? (i := 22) rfl))) (by decide) (t := .int) (t' := (.array .int)) (by decide) (by decide)))
  have E_6 := E_p5.wr W6
  have K_6 := K_p5.wr W6 (Or.inl (List.mem_of_getElem? (i := 0) rfl))
  have Z_6 := Zq6
  have N_6 := Fr.snoc X6 N_p5 go
  have A_ll_6 := A_ll_p5.other W6 (by omega)
  have A_lf_6 := A_lf_p5.other W6 (by omega)
  refine own_st (g1 := (mkF m 21 #[.val (.ref o), .val (.int (3 : Int32))] [(.ref o)])) (fun zt zk => XS.aloadN X6.here hx rfl (hb hby d3_20) rfl rfl zk) ?_
  refine own_st (g1 := (mkF m 22 #[.val (.ref o), .val (.int (3 : Int32))] [(.int (3 : Int32)), (.ref o)])) (fun zt zk => XS.iloadN X6.here hx rfl (hb hby d3_21) rfl zk) ?_
  obtain ⟨T7, h7, k7, X7, e7, E7, A7, st7⟩ := newP X6 hx hZ (hw _ (List.mem_of_getElem? (i := 5) rfl)) e6 (g := (mkF m 22 #[.val (.ref o), .val (.int (3 : Int32))] [(.int (3 : Int32)), (.ref o)])) rfl (hb hby d3_22) rfl (by decide) (cap := 3) (by decide) (by decide) (by decide) (by decide)
  obtain ⟨b7, g7⟩ : ∃ z, z = h6.size := ⟨_, rfl⟩
  rw [← g7] at A7 st7
  refine own_st (g1 := (mkF m 24 #[.val (.ref o), .val (.int (3 : Int32))] [(.ref b7), (.ref o)])) (st7) ?_
  have A_cf : VA Z h7 b7 .int 3 (fun _ => .int (0 : Int32)) := VA.new A7 rfl
  have l3 : b5 < b7 := by have := A_lf_6.lt; omega
  have Fll_p7 := (Fll_6.ext E7)
  have Flf_p7 := (Flf_6.ext E7)
  have Fcf_p7 := (Fcf_6.ext E7)
  have Fcl_p7 := (Fcl_6.ext E7)
  have Fcc_p7 := (Fcc_6.ext E7)
  have Flc_p7 := (Flc_6.ext E7)
  have Fkc_p7 := (Fkc_6.ext E7)
  have E_p7 := (E_6.ext E7)
  have K_p7 := (K_6.ext E7)
  have Z_p7 := (Nat.le_trans Z_6 E7.1)
  have N_p7 := N_6
  have A_ll_p7 := (A_ll_6.ext E7)
  have A_lf_p7 := (A_lf_6.ext E7)
  have A_cf_p7 := A_cf
  obtain ⟨T8, h8, X8, e8, W8, st8⟩ := putF X7 hx hZ hown (host := "") (Or.inl (hw _ (List.mem_of_getElem? (i := 23) rfl))) Via.refl e7 Fcf_p7 E_p7 (Or.inr ⟨(hw _ (List.mem_of_getElem? (i := 24) rfl)), rfl, hnm⟩) (hw _ (List.mem_of_getElem? (i := 11) rfl)) (ty := (.array .int)) (by decide) rfl rfl (g := (mkF m 24 #[.val (.ref o), .val (.int (3 : Int32))] [(.ref b7), (.ref o)])) rfl rfl (hb hby d3_24)
  refine own_st (g1 := (mkF m 27 #[.val (.ref o), .val (.int (3 : Int32))] [])) (st8) ?_
  have Zq8 : n0 ≤ h8.size := (by rw [Wr.size W8]; exact Z_p7)
  have Fll_8 := Fll_p7.other W8 (Or.inr (slot_ne (Or.inl (hw _ (List.mem_of_getElem? (i := 20) rfl))) (Or.inr (hw _ (List.mem_of_getElem? (i := 24) rfl))) (by decide) (t := (.array .int)) (t' := (.array .int)) (by decide) (by decide)))
  have Flf_8 := Flf_p7.other W8 (Or.inr (slot_ne (Or.inl (hw _ (List.mem_of_getElem? (i := 22) rfl))) (Or.inr (hw _ (List.mem_of_getElem? (i := 24) rfl))) (by decide) (t := (.array .int)) (t' := (.array .int)) (by decide) (by decide)))
  have Fcf_8 := Fcf_p7.same W8
  have Fcl_8 := Fcl_p7.other W8 (Or.inr (slot_ne (Or.inr (hw _ (List.mem_of_getElem? (i := 31) rfl))) (Or.inr (hw _ (List.mem_of_getElem? (i := 24) rfl))) (by decide) (t := (.array .int)) (t' := (.array .int)) (by decide) (by decide)))
  have Fcc_8 := Fcc_p7.other W8 (Or.inr (slot_ne (Or.inl (hw _ (List.mem_of_getElem? (i := 38) rfl))) (Or.inr (hw _ (List.mem_of_getElem? (i := 24) rfl))) (by decide) (t := .int) (t' := (.array .int)) (by decide) (by decide)))
  have Flc_8 := Flc_p7.other W8 (Or.inr (slot_ne (Or.inl (hw _ (List.mem_of_getElem? (i := 41) rfl))) (Or.inr (hw _ (List.mem_of_getElem? (i := 24) rfl))) (by decide) (t := .int) (t' := (.array .int)) (by decide) (by decide)))
  have Fkc_8 := Fkc_p7.other W8 (Or.inr (slot_ne (Or.inl (hw _ (List.mem_of_getElem? (i := 48) rfl))) (Or.inr (hw _ (List.mem_of_getElem? (i := 24) rfl))) (by decide) (t := .int) (t' := (.array .int)) (by decide) (by decide)))
  have E_8 := E_p7.wr W8
  have K_8 := K_p7.wr W8 (Or.inl (List.mem_of_getElem? (i := 0) rfl))
  have Z_8 := Zq8
  have N_8 := Fr.snoc X8 N_p7 go
  have A_ll_8 := A_ll_p7.other W8 (by omega)
  have A_lf_8 := A_lf_p7.other W8 (by omega)
  have A_cf_8 := A_cf_p7.other W8 (by omega)
  refine own_st (g1 := (mkF m 28 #[.val (.ref o), .val (.int (3 : Int32))] [(.ref o)])) (fun zt zk => XS.aloadN X8.here hx rfl (hb hby d3_27) rfl rfl zk) ?_
  obtain ⟨T9, X9, e9, st9⟩ := getF X8 hx hZ hown (host := "") (Or.inl (hw _ (List.mem_of_getElem? (i := 23) rfl))) Via.refl e8 Fcf_8 (g := (mkF m 28 #[.val (.ref o), .val (.int (3 : Int32))] [(.ref o)])) rfl rfl (hb hby d3_28)
  refine own_st (g1 := (mkF m 31 #[.val (.ref o), .val (.int (3 : Int32))] [(.ref b7)])) (st9) ?_
  refine own_st (g1 := (mkF m 33 #[.val (.ref o), .val (.int (3 : Int32))] [(.int (2147483647 : Int32)), (.ref b7)])) (X9.ldcInt hx hown (mvT hZ (hw _ (List.mem_of_getElem? (i := 25) rfl))) (g := (mkF m 31 #[.val (.ref o), .val (.int (3 : Int32))] [(.ref b7)])) rfl (hb hby d3_31)) ?_
  obtain ⟨_, _, ⟨T10, L10, k10, n10⟩, -, X10, ⟨Lc10, hQ10, l10, y10, z10⟩, st10⟩ := Jvm.LawKit.callS X9 hx (y := (⟨"java/util/Arrays", "fill", "([II)V"⟩ : MethodName)) hown (mvT hZ (hw _ (List.mem_of_getElem? (i := 26) rfl))) (mvT hZ (hw _ (List.mem_of_getElem? (i := 27) rfl))) (mvT hZ (hw _ (List.mem_of_getElem? (i := 28) rfl))) (mvT hZ (hw _ (List.mem_of_getElem? (i := 29) rfl))) (by decide) (backOf (W := 0) (rm5 l Z a0 hw [] b7 (2147483647 : Int32) (fun _ => 0) h8 n0 (by omega) A_cf_8) hZ (hw _ (List.mem_of_getElem? (i := 29) rfl)) (hw _ (List.mem_of_getElem? (i := 28) rfl)) (by decide) (by decide)) (g := (mkF m 33 #[.val (.ref o), .val (.int (3 : Int32))] [(.int (2147483647 : Int32)), (.ref b7)])) rfl (by rw [hml]; rfl) (argsL := [(.ref b7), (.int (2147483647 : Int32))]) (rest := []) (lenOf pd_0 rfl) rfl (by show 2 * 0 + _ ≤ _; exact Nat.le_of_eq rfl) (hb hby d3_33) (fun _ _ => ⟨rfl, e9, (by decide : 0 + 1 + 1 + 1 + 0 ≤ _), (by decide : 0 + 16 + 16 + 3 + 0 ≤ _)⟩)
  dsimp only [Pt.U, Pt.locs, Pt.cells, Pt.slots] at X10 l10 y10 z10 st10 hQ10
  replace X10 := own_stand X10 l10 y10 z10
  clear l10 y10 z10
  obtain ⟨rfl, Nq, Kq, Vq⟩ := hQ10
  refine own_st (g1 := (mkF m 36 #[.val (.ref o), .val (.int (3 : Int32))] [])) (st10) ?_
  have Fll_q10 := Fll_8.keep Kq (own_nin (by omega) nin0)
  have Flf_q10 := Flf_8.keep Kq (own_nin (by omega) nin0)
  have Fcf_q10 := Fcf_8.keep Kq (own_nin (by omega) nin0)
  have Fcl_q10 := Fcl_8.keep Kq (own_nin (by omega) nin0)
  have Fcc_q10 := Fcc_8.keep Kq (own_nin (by omega) nin0)
  have Flc_q10 := Flc_8.keep Kq (own_nin (by omega) nin0)
  have Fkc_q10 := Fkc_8.keep Kq (own_nin (by omega) nin0)
  have E_q10 := E_8.keep Kq
  have K_q10 := K_8.trans Kq (allS (Or.inr (by omega)) all0)
  have Z_q10 := Nat.le_trans Z_8 Kq.1
  have N_q10 := Fr.app N_8 Nq
  have A_ll_q10 := A_ll_8.keep Kq (own_nin (by omega) nin0)
  have A_lf_q10 := A_lf_8.keep Kq (own_nin (by omega) nin0)
  have A_cf_q10 := Vq
  refine own_st (g1 := (mkF m 37 #[.val (.ref o), .val (.int (3 : Int32))] [(.ref o)])) (fun zt zk => XS.aloadN X10.here hx rfl (hb hby d3_36) rfl rfl zk) ?_
  refine own_st (g1 := (mkF m 38 #[.val (.ref o), .val (.int (3 : Int32))] [(.int (3 : Int32)), (.ref o)])) (fun zt zk => XS.iloadN X10.here hx rfl (hb hby d3_37) rfl zk) ?_
  obtain ⟨T11, h11, k11, X11, e11, E11, A11, st11⟩ := newP X10 hx hZ (hw _ (List.mem_of_getElem? (i := 5) rfl)) rfl (g := (mkF m 38 #[.val (.ref o), .val (.int (3 : Int32))] [(.int (3 : Int32)), (.ref o)])) rfl (hb hby d3_38) rfl (by decide) (cap := 3) (by decide) (by decide) (by decide) (by decide)
  obtain ⟨b11, g11⟩ : ∃ z, z = T10.heap.size := ⟨_, rfl⟩
  rw [← g11] at A11 st11
  refine own_st (g1 := (mkF m 40 #[.val (.ref o), .val (.int (3 : Int32))] [(.ref b11), (.ref o)])) (st11) ?_
  have A_cl : VA Z h11 b11 .int 3 (fun _ => .int (0 : Int32)) := VA.new A11 rfl
  have l4 : b7 < b11 := by have := A_cf_q10.lt; omega
  have Fll_p11 := (Fll_q10.ext E11)
  have Flf_p11 := (Flf_q10.ext E11)
  have Fcf_p11 := (Fcf_q10.ext E11)
  have Fcl_p11 := (Fcl_q10.ext E11)
  have Fcc_p11 := (Fcc_q10.ext E11)
  have Flc_p11 := (Flc_q10.ext E11)
  have Fkc_p11 := (Fkc_q10.ext E11)
  have E_p11 := (E_q10.ext E11)
  have K_p11 := (K_q10.ext E11)
  have Z_p11 := (Nat.le_trans Z_q10 E11.1)
  have N_p11 := N_q10
  have A_ll_p11 := (A_ll_q10.ext E11)
  have A_lf_p11 := (A_lf_q10.ext E11)
  have A_cf_p11 := (A_cf_q10.ext E11)
  have A_cl_p11 := A_cl
  obtain ⟨T12, h12, X12, e12, W12, st12⟩ := putF X11 hx hZ hown (host := "") (Or.inl (hw _ (List.mem_of_getElem? (i := 30) rfl))) Via.refl e11 Fcl_p11 E_p11 (Or.inr ⟨(hw _ (List.mem_of_getElem? (i := 31) rfl)), rfl, hnm⟩) (hw _ (List.mem_of_getElem? (i := 11) rfl)) (ty := (.array .int)) (by decide) rfl rfl (g := (mkF m 40 #[.val (.ref o), .val (.int (3 : Int32))] [(.ref b11), (.ref o)])) rfl rfl (hb hby d3_40)
  refine own_st (g1 := (mkF m 43 #[.val (.ref o), .val (.int (3 : Int32))] [])) (st12) ?_
  have Zq12 : n0 ≤ h12.size := (by rw [Wr.size W12]; exact Z_p11)
  have Fll_12 := Fll_p11.other W12 (Or.inr (slot_ne (Or.inl (hw _ (List.mem_of_getElem? (i := 20) rfl))) (Or.inr (hw _ (List.mem_of_getElem? (i := 31) rfl))) (by decide) (t := (.array .int)) (t' := (.array .int)) (by decide) (by decide)))
  have Flf_12 := Flf_p11.other W12 (Or.inr (slot_ne (Or.inl (hw _ (List.mem_of_getElem? (i := 22) rfl))) (Or.inr (hw _ (List.mem_of_getElem? (i := 31) rfl))) (by decide) (t := (.array .int)) (t' := (.array .int)) (by decide) (by decide)))
  have Fcf_12 := Fcf_p11.other W12 (Or.inr (slot_ne (Or.inr (hw _ (List.mem_of_getElem? (i := 24) rfl))) (Or.inr (hw _ (List.mem_of_getElem? (i := 31) rfl))) (by decide) (t := (.array .int)) (t' := (.array .int)) (by decide) (by decide)))
  have Fcl_12 := Fcl_p11.same W12
  have Fcc_12 := Fcc_p11.other W12 (Or.inr (slot_ne (Or.inl (hw _ (List.mem_of_getElem? (i := 38) rfl))) (Or.inr (hw _ (List.mem_of_getElem? (i := 31) rfl))) (by decide) (t := .int) (t' := (.array .int)) (by decide) (by decide)))
  have Flc_12 := Flc_p11.other W12 (Or.inr (slot_ne (Or.inl (hw _ (List.mem_of_getElem? (i := 41) rfl))) (Or.inr (hw _ (List.mem_of_getElem? (i := 31) rfl))) (by decide) (t := .int) (t' := (.array .int)) (by decide) (by decide)))
  have Fkc_12 := Fkc_p11.other W12 (Or.inr (slot_ne (Or.inl (hw _ (List.mem_of_getElem? (i := 48) rfl))) (Or.inr (hw _ (List.mem_of_getElem? (i := 31) rfl))) (by decide) (t := .int) (t' := (.array .int)) (by decide) (by decide)))
  have E_12 := E_p11.wr W12
  have K_12 := K_p11.wr W12 (Or.inl (List.mem_of_getElem? (i := 0) rfl))
  have Z_12 := Zq12
  have N_12 := Fr.snoc X12 N_p11 go
  have A_ll_12 := A_ll_p11.other W12 (by omega)
  have A_lf_12 := A_lf_p11.other W12 (by omega)
  have A_cf_12 := A_cf_p11.other W12 (by omega)
  have A_cl_12 := A_cl_p11.other W12 (by omega)
  exact own_here X12 ⟨43, _, rfl, (hb hby d3_43), (by decide), (by decide), (by rw [e12]; exact ⟨b3, b5, b7, b11, rfl, N_12, s1, K_12, ⟨go, l1, l2, l3, l4⟩, Z_12, E_12, Fll_12, Flf_12, Fcf_12, Fcl_12, Fcc_12, Flc_12, Fkc_12, A_ll_12, A_lf_12, A_cf_12, A_cl_12⟩)⟩
theorem d6_0 : decode prog_16_method_2_code 0 = .ok (.aload_n 0, 1) := by decide +kernel
theorem d6_1 : decode prog_16_method_2_code 1 = .ok (.getfield 16, 3) := by decide +kernel
theorem d6_4 : decode prog_16_method_2_code 4 = .ok (.iload_n 1, 1) := by decide +kernel
theorem d6_5 : decode prog_16_method_2_code 5 = .ok (.iaload, 1) := by decide +kernel
theorem d6_6 : decode prog_16_method_2_code 6 = .ok (.istore_n 3, 1) := by decide +kernel
theorem d6_7 : decode prog_16_method_2_code 7 = .ok (.iload_n 3, 1) := by decide +kernel
theorem d6_8 : decode prog_16_method_2_code 8 = .ok (.ldc 21, 2) := by decide +kernel
theorem d6_10 : decode prog_16_method_2_code 10 = .ok (.if_icmp .ne 23, 3) := by decide +kernel
theorem d6_13 : decode prog_16_method_2_code 13 = .ok (.aload_n 0, 1) := by decide +kernel
theorem d6_14 : decode prog_16_method_2_code 14 = .ok (.getfield 28, 3) := by decide +kernel
theorem d6_17 : decode prog_16_method_2_code 17 = .ok (.aload_n 0, 1) := by decide +kernel
theorem d6_18 : decode prog_16_method_2_code 18 = .ok (.dup, 1) := by decide +kernel
theorem d6_19 : decode prog_16_method_2_code 19 = .ok (.getfield 31, 3) := by decide +kernel
theorem d6_22 : decode prog_16_method_2_code 22 = .ok (.dup_x1, 1) := by decide +kernel
theorem d6_23 : decode prog_16_method_2_code 23 = .ok (.iconst 1, 1) := by decide +kernel
theorem d6_24 : decode prog_16_method_2_code 24 = .ok (.iadd, 1) := by decide +kernel
theorem d6_25 : decode prog_16_method_2_code 25 = .ok (.putfield 31, 3) := by decide +kernel
theorem d6_28 : decode prog_16_method_2_code 28 = .ok (.iload_n 1, 1) := by decide +kernel
theorem d6_29 : decode prog_16_method_2_code 29 = .ok (.iastore, 1) := by decide +kernel
theorem d6_30 : decode prog_16_method_2_code 30 = .ok (.goto 81, 3) := by decide +kernel
theorem d6_33 : decode prog_16_method_2_code 33 = .ok (.iload_n 2, 1) := by decide +kernel
theorem d6_34 : decode prog_16_method_2_code 34 = .ok (.iload_n 3, 1) := by decide +kernel
theorem d6_35 : decode prog_16_method_2_code 35 = .ok (.if_icmp .ge 76, 3) := by decide +kernel
theorem d6_38 : decode prog_16_method_2_code 38 = .ok (.aload_n 0, 1) := by decide +kernel
theorem d6_39 : decode prog_16_method_2_code 39 = .ok (.getfield 35, 3) := by decide +kernel
theorem d6_42 : decode prog_16_method_2_code 42 = .ok (.aload_n 0, 1) := by decide +kernel
theorem d6_43 : decode prog_16_method_2_code 43 = .ok (.getfield 7, 3) := by decide +kernel
theorem d6_46 : decode prog_16_method_2_code 46 = .ok (.arraylength, 1) := by decide +kernel
theorem d6_47 : decode prog_16_method_2_code 47 = .ok (.if_icmp .ne 37, 3) := by decide +kernel
theorem d6_84 : decode prog_16_method_2_code 84 = .ok (.aload_n 0, 1) := by decide +kernel
theorem d6_85 : decode prog_16_method_2_code 85 = .ok (.getfield 7, 3) := by decide +kernel
theorem d6_88 : decode prog_16_method_2_code 88 = .ok (.aload_n 0, 1) := by decide +kernel
theorem d6_89 : decode prog_16_method_2_code 89 = .ok (.getfield 35, 3) := by decide +kernel
theorem d6_92 : decode prog_16_method_2_code 92 = .ok (.iload_n 1, 1) := by decide +kernel
theorem d6_93 : decode prog_16_method_2_code 93 = .ok (.iastore, 1) := by decide +kernel
theorem d6_94 : decode prog_16_method_2_code 94 = .ok (.aload_n 0, 1) := by decide +kernel
theorem d6_95 : decode prog_16_method_2_code 95 = .ok (.getfield 13, 3) := by decide +kernel
theorem d6_98 : decode prog_16_method_2_code 98 = .ok (.aload_n 0, 1) := by decide +kernel
theorem d6_99 : decode prog_16_method_2_code 99 = .ok (.dup, 1) := by decide +kernel
theorem d6_100 : decode prog_16_method_2_code 100 = .ok (.getfield 35, 3) := by decide +kernel
theorem d6_103 : decode prog_16_method_2_code 103 = .ok (.dup_x1, 1) := by decide +kernel
theorem d6_104 : decode prog_16_method_2_code 104 = .ok (.iconst 1, 1) := by decide +kernel
theorem d6_105 : decode prog_16_method_2_code 105 = .ok (.iadd, 1) := by decide +kernel
theorem d6_106 : decode prog_16_method_2_code 106 = .ok (.putfield 35, 3) := by decide +kernel
theorem d6_109 : decode prog_16_method_2_code 109 = .ok (.iload_n 3, 1) := by decide +kernel
theorem d6_110 : decode prog_16_method_2_code 110 = .ok (.iastore, 1) := by decide +kernel
theorem d6_111 : decode prog_16_method_2_code 111 = .ok (.aload_n 0, 1) := by decide +kernel
theorem d6_112 : decode prog_16_method_2_code 112 = .ok (.getfield 16, 3) := by decide +kernel
theorem d6_115 : decode prog_16_method_2_code 115 = .ok (.iload_n 1, 1) := by decide +kernel
theorem d6_116 : decode prog_16_method_2_code 116 = .ok (.iload_n 3, 1) := by decide +kernel
theorem d6_117 : decode prog_16_method_2_code 117 = .ok (.iload_n 2, 1) := by decide +kernel
theorem d6_118 : decode prog_16_method_2_code 118 = .ok (.invokestatic 42, 3) := by decide +kernel
theorem d6_121 : decode prog_16_method_2_code 121 = .ok (.iastore, 1) := by decide +kernel
theorem d6_122 : decode prog_16_method_2_code 122 = .ok (.return_, 1) := by decide +kernel
theorem pn_6 : plainName "com/example/rackweave/rackweave/core/ChangeMarks" = true := by first | (simp [plainName, overriddenIn]; done) | decide +kernel
theorem ef_6 (m : MethodId) (x0 : Nat) (x1 : Int32) (x2 : Int32) : entryFrame m #[(.ref x0), (.int x1), (.int x2)] 4 = mkF m 0 #[.val (.ref x0), .val (.int x1), .val (.int x2), .unset] [] := by first | (simp [entryFrame, mkF, argsToLocals, Value.category]; done) | rfl
def Q6 (Z : State) (i : Nat) (v : Int32) (o ll lf cf cl : Nat) (gll : Nat → Nat) (flf fcf : Nat → Int32) (gcl : Nat → Nat) (cc lc kc : Nat) (h0 : Heap) (n0 : Nat) (r : Option Value) (h : Heap) (L : List Loc) : Prop := ∃ (gll' : Nat → Nat) (flf' fcf' : Nat → Int32) (gcl' : Nat → Nat) (cc' lc' : Nat), r = none ∧ Fr n0 L ∧ Keep h0 h [o, ll, lf, cf, cl] ∧ own_mk i v gll flf fcf gcl cc lc gll' flf' fcf' gcl' cc' lc' ∧ CM Z h n0 o ll lf cf cl gll' flf' fcf' gcl' cc' lc' kc
set_option maxRecDepth 65536 in
set_option maxHeartbeats 40000000 in
theorem rm6 (l : Launch) (Z : State) (a0 : Array Value) (hw : ∀ d ∈ tables_1, d.before a0 Z = true) (ws : List Jvm.Cond) (i : Nat) (v : Int32) (o ll lf cf cl : Nat) (gll : Nat → Nat) (flf fcf : Nat → Int32) (gcl : Nat → Nat) (cc lc kc : Nat) (h0 : Heap) (n0 : Nat) (hi : i < 3) (hcc : fcf i = (2147483647 : Int32) → cc < 3) (hlc : lc < 16) (hcb : cc ≤ 3) (H : CM Z h0 n0 o ll lf cf cl gll flf fcf gcl cc lc kc) :
    Meets l Z (⟨"com/example/rackweave/rackweave/core/ChangeMarks", "mark", "(II)V"⟩ : MethodName) prog_16_method_2_code 4 none ws ({ frames := 1, cells := 0, slots := 0, locals := 15 } : Room) #[(.ref o), (.int (Int32.ofNat i)), (.int v)] h0 0 0 (Q6 Z i v o ll lf cf cl gll flf fcf gcl cc lc kc h0 n0) := by
  refine own_meets (plainFor_of_name pn_6) ?_
  intro p e s m below meth c s₁ hx hZ hby hml hown hnm hret hlk X0 e0
  have hown : s.vm.findClass "com/example/rackweave/rackweave/core/ChangeMarks" = some m.cls := hown
  have hnm : meth.name = "mark" := hnm
  refine own_finV (l := l) (R := ({ frames := 1, cells := 0, slots := 0, locals := 15 } : Room)) (m := m) (args := #[(.ref o), (.int (Int32.ofNat i)), (.int v)]) (c := c) hx hret hlk ?_
  refine own_cast (ef_6 m o (Int32.ofNat i) v) ?_
  have H0 := H
  obtain ⟨⟨o1, o2, o3, o4, o5⟩, hz, Ex, Fll, Flf, Fcf, Fcl, Fcc, Flc, Fkc, All, Alf, Acf, Acl⟩ := H0
  have hA : Goes p l e ({ frames := 1, cells := 0, slots := 0, locals := 15 } : Room) s m #[(.ref o), (.int (Int32.ofNat i)), (.int v)] below meth c s₁ (mkF m 0 #[.val (.ref o), .val (.int (Int32.ofNat i)), .val (.int v), .unset] []) (fun T' L' k' n' g' => ∃ (gll' : Nat → Nat) (flf' : Nat → Int32) (gcl' : Nat → Nat) (cc' lc' : Nat), k' = 0 ∧ n' = 0 ∧ g' = (mkF m 111 #[.val (.ref o), .val (.int (Int32.ofNat i)), .val (.int v), .val (.int (fcf i))] []) ∧ Fr n0 L' ∧ Keep h0 T'.heap [o, ll, lf, cf, cl] ∧ own_mk0 i v gll flf fcf gcl cc lc gll' flf' gcl' cc' lc' ∧ CM Z T'.heap n0 o ll lf cf cl gll' flf' fcf gcl' cc' lc' kc) := by
    refine own_st (g1 := (mkF m 1 #[.val (.ref o), .val (.int (Int32.ofNat i)), .val (.int v), .unset] [(.ref o)])) (fun zt zk => XS.aloadN X0.here hx rfl (hb hby d6_0) rfl rfl zk) ?_
    obtain ⟨T13, X13, e13, st13⟩ := getF X0 hx hZ hown (host := "") (Or.inl (hw _ (List.mem_of_getElem? (i := 23) rfl))) Via.refl e0 Fcf (g := (mkF m 1 #[.val (.ref o), .val (.int (Int32.ofNat i)), .val (.int v), .unset] [(.ref o)])) rfl rfl (hb hby d6_1)
    refine own_st (g1 := (mkF m 4 #[.val (.ref o), .val (.int (Int32.ofNat i)), .val (.int v), .unset] [(.ref cf)])) (st13) ?_
    refine own_st (g1 := (mkF m 5 #[.val (.ref o), .val (.int (Int32.ofNat i)), .val (.int v), .unset] [(.int (Int32.ofNat i)), (.ref cf)])) (fun zt zk => XS.iloadN X13.here hx rfl (hb hby d6_4) rfl zk) ?_
    refine own_st (g1 := (mkF m 6 #[.val (.ref o), .val (.int (Int32.ofNat i)), .val (.int v), .unset] [(.int (fcf i))])) (own_ild X13 hx hZ e13 Acf (j := i) (v := (.int (fcf i))) rfl hi (by decide) rfl (g := (mkF m 5 #[.val (.ref o), .val (.int (Int32.ofNat i)), .val (.int v), .unset] [(.int (Int32.ofNat i)), (.ref cf)])) rfl rfl (hb hby d6_5)) ?_
    refine own_st (g1 := (mkF m 7 #[.val (.ref o), .val (.int (Int32.ofNat i)), .val (.int v), .val (.int (fcf i))] [])) (fun zt zk => XS.istoreN X13.here hx rfl (hb hby d6_6) rfl (l' := #[.val (.ref o), .val (.int (Int32.ofNat i)), .val (.int v), .val (.int (fcf i))]) rfl zk) ?_
    refine own_st (g1 := (mkF m 8 #[.val (.ref o), .val (.int (Int32.ofNat i)), .val (.int v), .val (.int (fcf i))] [(.int (fcf i))])) (fun zt zk => XS.iloadN X13.here hx rfl (hb hby d6_7) rfl zk) ?_
    refine own_st (g1 := (mkF m 10 #[.val (.ref o), .val (.int (Int32.ofNat i)), .val (.int v), .val (.int (fcf i))] [(.int (2147483647 : Int32)), (.int (fcf i))])) (X13.ldcInt hx hown (mvT hZ (hw _ (List.mem_of_getElem? (i := 25) rfl))) (g := (mkF m 8 #[.val (.ref o), .val (.int (Int32.ofNat i)), .val (.int v), .val (.int (fcf i))] [(.int (fcf i))])) rfl (hb hby d6_8)) ?_
    by_cases hm : (fcf i) = (2147483647 : Int32)
    · refine own_st (g1 := (mkF m 13 #[.val (.ref o), .val (.int (Int32.ofNat i)), .val (.int v), .val (.int (fcf i))] [])) (fun zt zk => XS.icmpNo X13.here hx rfl (hb hby d6_10) rfl (teq hm).2 zk) ?_
      refine own_st (g1 := (mkF m 14 #[.val (.ref o), .val (.int (Int32.ofNat i)), .val (.int v), .val (.int (fcf i))] [(.ref o)])) (fun zt zk => XS.aloadN X13.here hx rfl (hb hby d6_13) rfl rfl zk) ?_
      obtain ⟨T14, X14, e14, st14⟩ := getF X13 hx hZ hown (host := "") (Or.inl (hw _ (List.mem_of_getElem? (i := 30) rfl))) Via.refl e13 Fcl (g := (mkF m 14 #[.val (.ref o), .val (.int (Int32.ofNat i)), .val (.int v), .val (.int (fcf i))] [(.ref o)])) rfl rfl (hb hby d6_14)
      refine own_st (g1 := (mkF m 17 #[.val (.ref o), .val (.int (Int32.ofNat i)), .val (.int v), .val (.int (fcf i))] [(.ref cl)])) (st14) ?_
      refine own_st (g1 := (mkF m 18 #[.val (.ref o), .val (.int (Int32.ofNat i)), .val (.int v), .val (.int (fcf i))] [(.ref o), (.ref cl)])) (fun zt zk => XS.aloadN X14.here hx rfl (hb hby d6_17) rfl rfl zk) ?_
      refine own_st (g1 := (mkF m 19 #[.val (.ref o), .val (.int (Int32.ofNat i)), .val (.int v), .val (.int (fcf i))] [(.ref o), (.ref o), (.ref cl)])) (fun zt zk => XS.dup X14.here hx rfl (hb hby d6_18) rfl rfl zk) ?_
      obtain ⟨T15, X15, e15, st15⟩ := getF X14 hx hZ hown (host := "") (Or.inl (hw _ (List.mem_of_getElem? (i := 37) rfl))) Via.refl e14 Fcc (g := (mkF m 19 #[.val (.ref o), .val (.int (Int32.ofNat i)), .val (.int v), .val (.int (fcf i))] [(.ref o), (.ref o), (.ref cl)])) rfl rfl (hb hby d6_19)
      refine own_st (g1 := (mkF m 22 #[.val (.ref o), .val (.int (Int32.ofNat i)), .val (.int v), .val (.int (fcf i))] [(.int (Int32.ofNat cc)), (.ref o), (.ref cl)])) (st15) ?_
      refine own_st (g1 := (mkF m 23 #[.val (.ref o), .val (.int (Int32.ofNat i)), .val (.int v), .val (.int (fcf i))] [(.int (Int32.ofNat cc)), (.ref o), (.int (Int32.ofNat cc)), (.ref cl)])) (fun zt zk => XS.dupX1 X15.here hx rfl (hb hby d6_22) rfl rfl rfl zk) ?_
      refine own_st (g1 := (mkF m 24 #[.val (.ref o), .val (.int (Int32.ofNat i)), .val (.int v), .val (.int (fcf i))] [(.int (1 : Int32)), (.int (Int32.ofNat cc)), (.ref o), (.int (Int32.ofNat cc)), (.ref cl)])) (fun zt zk => XS.iconst X15.here hx rfl (hb hby d6_23) zk) ?_
      refine own_st (g1 := (mkF m 25 #[.val (.ref o), .val (.int (Int32.ofNat i)), .val (.int v), .val (.int (fcf i))] [(.int ((Int32.ofNat cc) + (1 : Int32))), (.ref o), (.int (Int32.ofNat cc)), (.ref cl)])) (fun zt zk => XS.iadd X15.here hx rfl (hb hby d6_24) rfl zk) ?_
      rw [own_succ cc]
      obtain ⟨T16, h16, X16, e16, W16, st16⟩ := putF X15 hx hZ hown (host := "") (Or.inl (hw _ (List.mem_of_getElem? (i := 37) rfl))) Via.refl e15 Fcc Ex (Or.inl (hw _ (List.mem_of_getElem? (i := 38) rfl))) (hw _ (List.mem_of_getElem? (i := 11) rfl)) (ty := .int) (by decide) rfl rfl (g := (mkF m 25 #[.val (.ref o), .val (.int (Int32.ofNat i)), .val (.int v), .val (.int (fcf i))] [(.int (Int32.ofNat (cc + 1))), (.ref o), (.int (Int32.ofNat cc)), (.ref cl)])) rfl rfl (hb hby d6_25)
      refine own_st (g1 := (mkF m 28 #[.val (.ref o), .val (.int (Int32.ofNat i)), .val (.int v), .val (.int (fcf i))] [(.int (Int32.ofNat cc)), (.ref cl)])) (st16) ?_
      have H1 := CM.fcc hw H W16
      have N1 := Fr.snoc X16 (Fr.nil n0) o1
      have K1 : Keep h0 h16 [o, ll, lf, cf, cl] := (Keep.refl h0 [o, ll, lf, cf, cl]).wr W16 (Or.inl (List.mem_of_getElem? (i := 0) rfl))
      have H1b := H1
      obtain ⟨⟨o1b, o2b, o3b, o4b, o5b⟩, hzb, Exb, Fllb, Flfb, Fcfb, Fclb, Fccb, Flcb, Fkcb, Allb, Alfb, Acfb, Aclb⟩ := H1b
      refine own_st (g1 := (mkF m 29 #[.val (.ref o), .val (.int (Int32.ofNat i)), .val (.int v), .val (.int (fcf i))] [(.int (Int32.ofNat i)), (.int (Int32.ofNat cc)), (.ref cl)])) (fun zt zk => XS.iloadN X16.here hx rfl (hb hby d6_28) rfl zk) ?_
      obtain ⟨T17, h17, X17, e17, W17, st17⟩ := own_ist X16 hx hZ e16 Aclb (j := cc) rfl (hcc hm) (by decide) (g := (mkF m 29 #[.val (.ref o), .val (.int (Int32.ofNat i)), .val (.int v), .val (.int (fcf i))] [(.int (Int32.ofNat i)), (.int (Int32.ofNat cc)), (.ref cl)])) rfl rfl (hb hby d6_29)
      refine own_st (g1 := (mkF m 30 #[.val (.ref o), .val (.int (Int32.ofNat i)), .val (.int v), .val (.int (fcf i))] [])) (st17) ?_
      have H2 := CM.wcl H1 W17
      have N2 := Fr.snoc X17 N1 (by omega)
      have K2 : Keep h0 h17 [o, ll, lf, cf, cl] := K1.wr W17 (Or.inl (List.mem_of_getElem? (i := 4) rfl))
      refine own_st (g1 := (mkF m 111 #[.val (.ref o), .val (.int (Int32.ofNat i)), .val (.int v), .val (.int (fcf i))] [])) (fun zt zk => XS.goto X17.here hx rfl (pc0 := 30) (pc' := 111) rfl (hb hby d6_30) (by decide) (by decide) zk) ?_
      exact own_here X17 ⟨gll, flf, upd gcl cc i, cc + 1, lc, rfl, rfl, rfl, N2, by rw [e17]; exact K2, Or.inl ⟨hm, rfl, rfl, rfl, rfl, rfl⟩, by rw [e17]; exact H2⟩
    · refine own_st (g1 := (mkF m 33 #[.val (.ref o), .val (.int (Int32.ofNat i)), .val (.int v), .val (.int (fcf i))] [])) (fun zt zk => XS.icmpYes X13.here hx rfl (pc0 := 10) (pc' := 33) rfl (hb hby d6_10) rfl (feq hm).2 (by decide) (by decide) zk) ?_
      refine own_st (g1 := (mkF m 34 #[.val (.ref o), .val (.int (Int32.ofNat i)), .val (.int v), .val (.int (fcf i))] [(.int v)])) (fun zt zk => XS.iloadN X13.here hx rfl (hb hby d6_33) rfl zk) ?_
      refine own_st (g1 := (mkF m 35 #[.val (.ref o), .val (.int (Int32.ofNat i)), .val (.int v), .val (.int (fcf i))] [(.int (fcf i)), (.int v)])) (fun zt zk => XS.iloadN X13.here hx rfl (hb hby d6_34) rfl zk) ?_
      by_cases hl : v < (fcf i)
      · refine own_st (g1 := (mkF m 38 #[.val (.ref o), .val (.int (Int32.ofNat i)), .val (.int v), .val (.int (fcf i))] [])) (fun zt zk => XS.icmpNo X13.here hx rfl (hb hby d6_35) rfl (tlt hl).2.1 zk) ?_
        refine own_st (g1 := (mkF m 39 #[.val (.ref o), .val (.int (Int32.ofNat i)), .val (.int v), .val (.int (fcf i))] [(.ref o)])) (fun zt zk => XS.aloadN X13.here hx rfl (hb hby d6_38) rfl rfl zk) ?_
        obtain ⟨T18, X18, e18, st18⟩ := getF X13 hx hZ hown (host := "") (Or.inl (hw _ (List.mem_of_getElem? (i := 40) rfl))) Via.refl e13 Flc (g := (mkF m 39 #[.val (.ref o), .val (.int (Int32.ofNat i)), .val (.int v), .val (.int (fcf i))] [(.ref o)])) rfl rfl (hb hby d6_39)
        refine own_st (g1 := (mkF m 42 #[.val (.ref o), .val (.int (Int32.ofNat i)), .val (.int v), .val (.int (fcf i))] [(.int (Int32.ofNat lc))])) (st18) ?_
        refine own_st (g1 := (mkF m 43 #[.val (.ref o), .val (.int (Int32.ofNat i)), .val (.int v), .val (.int (fcf i))] [(.ref o), (.int (Int32.ofNat lc))])) (fun zt zk => XS.aloadN X18.here hx rfl (hb hby d6_42) rfl rfl zk) ?_
        obtain ⟨T19, X19, e19, st19⟩ := getF X18 hx hZ hown (host := "") (Or.inl (hw _ (List.mem_of_getElem? (i := 19) rfl))) Via.refl e18 Fll (g := (mkF m 43 #[.val (.ref o), .val (.int (Int32.ofNat i)), .val (.int v), .val (.int (fcf i))] [(.ref o), (.int (Int32.ofNat lc))])) rfl rfl (hb hby d6_43)
        refine own_st (g1 := (mkF m 46 #[.val (.ref o), .val (.int (Int32.ofNat i)), .val (.int v), .val (.int (fcf i))] [(.ref ll), (.int (Int32.ofNat lc))])) (st19) ?_
        refine own_st (g1 := (mkF m 47 #[.val (.ref o), .val (.int (Int32.ofNat i)), .val (.int v), .val (.int (fcf i))] [(.int (16 : Int32)), (.int (Int32.ofNat lc))])) (own_len X19 hx hZ e19 All (N := (16 : Int32)) rfl (g := (mkF m 46 #[.val (.ref o), .val (.int (Int32.ofNat i)), .val (.int v), .val (.int (fcf i))] [(.ref ll), (.int (Int32.ofNat lc))])) rfl rfl (hb hby d6_46)) ?_
        refine own_st (g1 := (mkF m 84 #[.val (.ref o), .val (.int (Int32.ofNat i)), .val (.int v), .val (.int (fcf i))] [])) (fun zt zk => XS.icmpYes X19.here hx rfl (pc0 := 47) (pc' := 84) rfl (hb hby d6_47) rfl (feq (fun u => by have := (own_eq (i := lc) (j := 16) (by omega) (by omega)).mp u; omega)).2 (by decide) (by decide) zk) ?_
        refine own_st (g1 := (mkF m 85 #[.val (.ref o), .val (.int (Int32.ofNat i)), .val (.int v), .val (.int (fcf i))] [(.ref o)])) (fun zt zk => XS.aloadN X19.here hx rfl (hb hby d6_84) rfl rfl zk) ?_
        obtain ⟨T20, X20, e20, st20⟩ := getF X19 hx hZ hown (host := "") (Or.inl (hw _ (List.mem_of_getElem? (i := 19) rfl))) Via.refl e19 Fll (g := (mkF m 85 #[.val (.ref o), .val (.int (Int32.ofNat i)), .val (.int v), .val (.int (fcf i))] [(.ref o)])) rfl rfl (hb hby d6_85)
        refine own_st (g1 := (mkF m 88 #[.val (.ref o), .val (.int (Int32.ofNat i)), .val (.int v), .val (.int (fcf i))] [(.ref ll)])) (st20) ?_
        refine own_st (g1 := (mkF m 89 #[.val (.ref o), .val (.int (Int32.ofNat i)), .val (.int v), .val (.int (fcf i))] [(.ref o), (.ref ll)])) (fun zt zk => XS.aloadN X20.here hx rfl (hb hby d6_88) rfl rfl zk) ?_
        obtain ⟨T21, X21, e21, st21⟩ := getF X20 hx hZ hown (host := "") (Or.inl (hw _ (List.mem_of_getElem? (i := 40) rfl))) Via.refl e20 Flc (g := (mkF m 89 #[.val (.ref o), .val (.int (Int32.ofNat i)), .val (.int v), .val (.int (fcf i))] [(.ref o), (.ref ll)])) rfl rfl (hb hby d6_89)
        refine own_st (g1 := (mkF m 92 #[.val (.ref o), .val (.int (Int32.ofNat i)), .val (.int v), .val (.int (fcf i))] [(.int (Int32.ofNat lc)), (.ref ll)])) (st21) ?_
        refine own_st (g1 := (mkF m 93 #[.val (.ref o), .val (.int (Int32.ofNat i)), .val (.int v), .val (.int (fcf i))] [(.int (Int32.ofNat i)), (.int (Int32.ofNat lc)), (.ref ll)])) (fun zt zk => XS.iloadN X21.here hx rfl (hb hby d6_92) rfl zk) ?_
        obtain ⟨T22, h22, X22, e22, W22, st22⟩ := own_ist X21 hx hZ e21 All (j := lc) rfl hlc (by decide) (g := (mkF m 93 #[.val (.ref o), .val (.int (Int32.ofNat i)), .val (.int v), .val (.int (fcf i))] [(.int (Int32.ofNat i)), (.int (Int32.ofNat lc)), (.ref ll)])) rfl rfl (hb hby d6_93)
        refine own_st (g1 := (mkF m 94 #[.val (.ref o), .val (.int (Int32.ofNat i)), .val (.int v), .val (.int (fcf i))] [])) (st22) ?_
        have H1 := CM.wll H W22
        have N1 := Fr.snoc X22 (Fr.nil n0) (by omega)
        have K1 : Keep h0 h22 [o, ll, lf, cf, cl] := (Keep.refl h0 [o, ll, lf, cf, cl]).wr W22 (Or.inl (List.mem_of_getElem? (i := 1) rfl))
        have H1b := H1
        obtain ⟨⟨o1b, o2b, o3b, o4b, o5b⟩, hzb, Exb, Fllb, Flfb, Fcfb, Fclb, Fccb, Flcb, Fkcb, Allb, Alfb, Acfb, Aclb⟩ := H1b
        refine own_st (g1 := (mkF m 95 #[.val (.ref o), .val (.int (Int32.ofNat i)), .val (.int v), .val (.int (fcf i))] [(.ref o)])) (fun zt zk => XS.aloadN X22.here hx rfl (hb hby d6_94) rfl rfl zk) ?_
        obtain ⟨T23, X23, e23, st23⟩ := getF X22 hx hZ hown (host := "") (Or.inl (hw _ (List.mem_of_getElem? (i := 21) rfl))) Via.refl e22 Flfb (g := (mkF m 95 #[.val (.ref o), .val (.int (Int32.ofNat i)), .val (.int v), .val (.int (fcf i))] [(.ref o)])) rfl rfl (hb hby d6_95)
        refine own_st (g1 := (mkF m 98 #[.val (.ref o), .val (.int (Int32.ofNat i)), .val (.int v), .val (.int (fcf i))] [(.ref lf)])) (st23) ?_
        refine own_st (g1 := (mkF m 99 #[.val (.ref o), .val (.int (Int32.ofNat i)), .val (.int v), .val (.int (fcf i))] [(.ref o), (.ref lf)])) (fun zt zk => XS.aloadN X23.here hx rfl (hb hby d6_98) rfl rfl zk) ?_
        refine own_st (g1 := (mkF m 100 #[.val (.ref o), .val (.int (Int32.ofNat i)), .val (.int v), .val (.int (fcf i))] [(.ref o), (.ref o), (.ref lf)])) (fun zt zk => XS.dup X23.here hx rfl (hb hby d6_99) rfl rfl zk) ?_
        obtain ⟨T24, X24, e24, st24⟩ := getF X23 hx hZ hown (host := "") (Or.inl (hw _ (List.mem_of_getElem? (i := 40) rfl))) Via.refl e23 Flcb (g := (mkF m 100 #[.val (.ref o), .val (.int (Int32.ofNat i)), .val (.int v), .val (.int (fcf i))] [(.ref o), (.ref o), (.ref lf)])) rfl rfl (hb hby d6_100)
        refine own_st (g1 := (mkF m 103 #[.val (.ref o), .val (.int (Int32.ofNat i)), .val (.int v), .val (.int (fcf i))] [(.int (Int32.ofNat lc)), (.ref o), (.ref lf)])) (st24) ?_
        refine own_st (g1 := (mkF m 104 #[.val (.ref o), .val (.int (Int32.ofNat i)), .val (.int v), .val (.int (fcf i))] [(.int (Int32.ofNat lc)), (.ref o), (.int (Int32.ofNat lc)), (.ref lf)])) (fun zt zk => XS.dupX1 X24.here hx rfl (hb hby d6_103) rfl rfl rfl zk) ?_
        refine own_st (g1 := (mkF m 105 #[.val (.ref o), .val (.int (Int32.ofNat i)), .val (.int v), .val (.int (fcf i))] [(.int (1 : Int32)), (.int (Int32.ofNat lc)), (.ref o), (.int (Int32.ofNat lc)), (.ref lf)])) (fun zt zk => XS.iconst X24.here hx rfl (hb hby d6_104) zk) ?_
        refine own_st (g1 := (mkF m 106 #[.val (.ref o), .val (.int (Int32.ofNat i)), .val (.int v), .val (.int (fcf i))] [(.int ((Int32.ofNat lc) + (1 : Int32))), (.ref o), (.int (Int32.ofNat lc)), (.ref lf)])) (fun zt zk => XS.iadd X24.here hx rfl (hb hby d6_105) rfl zk) ?_
        rw [own_succ lc]
        obtain ⟨T25, h25, X25, e25, W25, st25⟩ := putF X24 hx hZ hown (host := "") (Or.inl (hw _ (List.mem_of_getElem? (i := 40) rfl))) Via.refl e24 Flcb Exb (Or.inl (hw _ (List.mem_of_getElem? (i := 41) rfl))) (hw _ (List.mem_of_getElem? (i := 11) rfl)) (ty := .int) (by decide) rfl rfl (g := (mkF m 106 #[.val (.ref o), .val (.int (Int32.ofNat i)), .val (.int v), .val (.int (fcf i))] [(.int (Int32.ofNat (lc + 1))), (.ref o), (.int (Int32.ofNat lc)), (.ref lf)])) rfl rfl (hb hby d6_106)
        refine own_st (g1 := (mkF m 109 #[.val (.ref o), .val (.int (Int32.ofNat i)), .val (.int v), .val (.int (fcf i))] [(.int (Int32.ofNat lc)), (.ref lf)])) (st25) ?_
        have H2 := CM.flc hw H1 W25
        have N2 := Fr.snoc X25 N1 o1
        have K2 : Keep h0 h25 [o, ll, lf, cf, cl] := K1.wr W25 (Or.inl (List.mem_of_getElem? (i := 0) rfl))
        have H2b := H2
        obtain ⟨⟨o1c, o2c, o3c, o4c, o5c⟩, hzc, Exc, Fllc, Flfc, Fcfc, Fclc, Fccc, Flcc, Fkcc, Allc, Alfc, Acfc, Aclc⟩ := H2b
        refine own_st (g1 := (mkF m 110 #[.val (.ref o), .val (.int (Int32.ofNat i)), .val (.int v), .val (.int (fcf i))] [(.int (fcf i)), (.int (Int32.ofNat lc)), (.ref lf)])) (fun zt zk => XS.iloadN X25.here hx rfl (hb hby d6_109) rfl zk) ?_
        obtain ⟨T26, h26, X26, e26, W26, st26⟩ := own_ist X25 hx hZ e25 Alfc (j := lc) rfl hlc (by decide) (g := (mkF m 110 #[.val (.ref o), .val (.int (Int32.ofNat i)), .val (.int v), .val (.int (fcf i))] [(.int (fcf i)), (.int (Int32.ofNat lc)), (.ref lf)])) rfl rfl (hb hby d6_110)
        refine own_st (g1 := (mkF m 111 #[.val (.ref o), .val (.int (Int32.ofNat i)), .val (.int v), .val (.int (fcf i))] [])) (st26) ?_
        have H3 := CM.wlf H2 W26
        have N3 := Fr.snoc X26 N2 (by omega)
        have K3 : Keep h0 h26 [o, ll, lf, cf, cl] := K2.wr W26 (Or.inl (List.mem_of_getElem? (i := 2) rfl))
        exact own_here X26 ⟨upd gll lc i, upd flf lc (fcf i), gcl, cc, lc + 1, rfl, rfl, rfl, N3, by rw [e26]; exact K3, Or.inr (Or.inl ⟨hm, hl, rfl, rfl, rfl, rfl, rfl⟩), by rw [e26]; exact H3⟩
      · refine own_st (g1 := (mkF m 111 #[.val (.ref o), .val (.int (Int32.ofNat i)), .val (.int v), .val (.int (fcf i))] [])) (fun zt zk => XS.icmpYes X13.here hx rfl (pc0 := 35) (pc' := 111) rfl (hb hby d6_35) rfl (flt hl).2.1 (by decide) (by decide) zk) ?_
        exact own_here X13 ⟨gll, flf, gcl, cc, lc, rfl, rfl, rfl, Fr.nil n0, by rw [e13]; exact Keep.refl h0 _, Or.inr (Or.inr ⟨hm, hl, rfl, rfl, rfl, rfl, rfl⟩), by rw [e13]; exact H⟩
  refine own_bind hA ?_
  rintro T1 L1 _ _ _ X1 ⟨gll', flf', gcl', cc', lc', rfl, rfl, rfl, N1, K1, hk, H1⟩
  have H1b := H1
  obtain ⟨⟨o1d, o2d, o3d, o4d, o5d⟩, hzd, Exd, Flld, Flfd, Fcfd, Fcld, Fccd, Flcd, Fkcd, Alld, Alfd, Acfd, Acld⟩ := H1b
  refine own_st (g1 := (mkF m 112 #[.val (.ref o), .val (.int (Int32.ofNat i)), .val (.int v), .val (.int (fcf i))] [(.ref o)])) (fun zt zk => XS.aloadN X1.here hx rfl (hb hby d6_111) rfl rfl zk) ?_
  obtain ⟨T27, X27, e27, st27⟩ := getF X1 hx hZ hown (host := "") (Or.inl (hw _ (List.mem_of_getElem? (i := 23) rfl))) Via.refl rfl Fcfd (g := (mkF m 112 #[.val (.ref o), .val (.int (Int32.ofNat i)), .val (.int v), .val (.int (fcf i))] [(.ref o)])) rfl rfl (hb hby d6_112)
  refine own_st (g1 := (mkF m 115 #[.val (.ref o), .val (.int (Int32.ofNat i)), .val (.int v), .val (.int (fcf i))] [(.ref cf)])) (st27) ?_
  refine own_st (g1 := (mkF m 116 #[.val (.ref o), .val (.int (Int32.ofNat i)), .val (.int v), .val (.int (fcf i))] [(.int (Int32.ofNat i)), (.ref cf)])) (fun zt zk => XS.iloadN X27.here hx rfl (hb hby d6_115) rfl zk) ?_
  refine own_st (g1 := (mkF m 117 #[.val (.ref o), .val (.int (Int32.ofNat i)), .val (.int v), .val (.int (fcf i))] [(.int (fcf i)), (.int (Int32.ofNat i)), (.ref cf)])) (fun zt zk => XS.iloadN X27.here hx rfl (hb hby d6_116) rfl zk) ?_
  refine own_st (g1 := (mkF m 118 #[.val (.ref o), .val (.int (Int32.ofNat i)), .val (.int v), .val (.int (fcf i))] [(.int v), (.int (fcf i)), (.int (Int32.ofNat i)), (.ref cf)])) (fun zt zk => XS.iloadN X27.here hx rfl (hb hby d6_117) rfl zk) ?_
  obtain ⟨_, _, ⟨T28, L28, k28, n28⟩, -, X28, ⟨Lc28, hQ28, l28, y28, z28⟩, st28⟩ := Jvm.LawKit.callS X27 hx (y := (⟨"java/lang/Math", "min", "(II)I"⟩ : MethodName)) hown (mvT hZ (hw _ (List.mem_of_getElem? (i := 39) rfl))) (mvT hZ (hw _ (List.mem_of_getElem? (i := 7) rfl))) (mvT hZ (hw _ (List.mem_of_getElem? (i := 8) rfl))) (mvT hZ (hw _ (List.mem_of_getElem? (i := 9) rfl))) (by decide) (backOf (W := 2) (rm2 l Z a0 hw [] (fcf i) v T1.heap n0) hZ (hw _ (List.mem_of_getElem? (i := 9) rfl)) (hw _ (List.mem_of_getElem? (i := 8) rfl)) (by decide) (by decide)) (g := (mkF m 118 #[.val (.ref o), .val (.int (Int32.ofNat i)), .val (.int v), .val (.int (fcf i))] [(.int v), (.int (fcf i)), (.int (Int32.ofNat i)), (.ref cf)])) rfl (by rw [hml]; rfl) (argsL := [(.int (fcf i)), (.int v)]) (rest := [(.int (Int32.ofNat i)), (.ref cf)]) (lenOf pd_1 rfl) rfl (by show 2 * 0 + _ ≤ _; exact Nat.le_of_eq rfl) (hb hby d6_118) (fun _ _ => ⟨rfl, e27, (by decide : 0 + 0 ≤ _), (by decide : 0 + 0 ≤ _)⟩)
  dsimp only [Pt.U, Pt.locs, Pt.cells, Pt.slots] at X28 l28 y28 z28 st28 hQ28
  replace X28 := own_stand X28 l28 y28 z28
  clear l28 y28 z28
  obtain ⟨rfl, Nq, hh⟩ := hQ28
  refine own_st (g1 := (mkF m 121 #[.val (.ref o), .val (.int (Int32.ofNat i)), .val (.int v), .val (.int (fcf i))] [(.int (own_min (fcf i) v)), (.int (Int32.ofNat i)), (.ref cf)])) (st28) ?_
  have eh : T28.heap = T1.heap := hh
  obtain ⟨T29, h29, X29, e29, W29, st29⟩ := own_ist X28 hx hZ eh Acfd (j := i) rfl hi (by decide) (g := (mkF m 121 #[.val (.ref o), .val (.int (Int32.ofNat i)), .val (.int v), .val (.int (fcf i))] [(.int (own_min (fcf i) v)), (.int (Int32.ofNat i)), (.ref cf)])) rfl rfl (hb hby d6_121)
  refine own_st (g1 := (mkF m 122 #[.val (.ref o), .val (.int (Int32.ofNat i)), .val (.int v), .val (.int (fcf i))] [])) (st29) ?_
  have H2 := CM.wcf H1 W29
  have N2 := Fr.snoc X29 (Fr.app N1 Nq) (by omega)
  have K2 : Keep h0 h29 [o, ll, lf, cf, cl] := K1.wr W29 (Or.inl (List.mem_of_getElem? (i := 3) rfl))
  exact own_here X29 ⟨122, _, rfl, (hb hby d6_122), (by decide), (by decide), (by rw [e29]; exact ⟨gll', flf', upd fcf i (own_min (fcf i) v), gcl', cc', lc', rfl, N2, K2, ⟨hk, rfl⟩, H2⟩)⟩
theorem d7_0 : decode prog_16_method_4_code 0 = .ok (.aload_n 0, 1) := by decide +kernel
theorem d7_1 : decode prog_16_method_4_code 1 = .ok (.aload_n 0, 1) := by decide +kernel
theorem d7_2 : decode prog_16_method_4_code 2 = .ok (.getfield 31, 3) := by decide +kernel
theorem d7_5 : decode prog_16_method_4_code 5 = .ok (.putfield 48, 3) := by decide +kernel
theorem d7_8 : decode prog_16_method_4_code 8 = .ok (.aload_n 0, 1) := by decide +kernel
theorem d7_9 : decode prog_16_method_4_code 9 = .ok (.iconst 0, 1) := by decide +kernel
theorem d7_10 : decode prog_16_method_4_code 10 = .ok (.putfield 35, 3) := by decide +kernel
theorem d7_13 : decode prog_16_method_4_code 13 = .ok (.return_, 1) := by decide +kernel
theorem pn_7 : plainName "com/example/rackweave/rackweave/core/ChangeMarks" = true := by first | (simp [plainName, overriddenIn]; done) | decide +kernel
theorem ef_7 (m : MethodId) (x0 : Nat) : entryFrame m #[(.ref x0)] 1 = mkF m 0 #[.val (.ref x0)] [] := by first | (simp [entryFrame, mkF, argsToLocals, Value.category]; done) | rfl
def Q7 (Z : State) (o ll lf cf cl : Nat) (gll : Nat → Nat) (flf fcf : Nat → Int32) (gcl : Nat → Nat) (cc lc kc : Nat) (h0 : Heap) (n0 : Nat) (r : Option Value) (h : Heap) (L : List Loc) : Prop := r = none ∧ Fr n0 L ∧ Keep h0 h [o, ll, lf, cf, cl] ∧ CM Z h n0 o ll lf cf cl gll flf fcf gcl cc 0 cc
set_option maxRecDepth 65536 in
set_option maxHeartbeats 40000000 in
theorem rm7 (l : Launch) (Z : State) (a0 : Array Value) (hw : ∀ d ∈ tables_1, d.before a0 Z = true) (ws : List Jvm.Cond) (o ll lf cf cl : Nat) (gll : Nat → Nat) (flf fcf : Nat → Int32) (gcl : Nat → Nat) (cc lc kc : Nat) (h0 : Heap) (n0 : Nat) (H : CM Z h0 n0 o ll lf cf cl gll flf fcf gcl cc lc kc) :
    Meets l Z (⟨"com/example/rackweave/rackweave/core/ChangeMarks", "keep", "()V"⟩ : MethodName) prog_16_method_4_code 1 none ws ({ frames := 0, cells := 0, slots := 0, locals := 0 } : Room) #[(.ref o)] h0 0 0 (Q7 Z o ll lf cf cl gll flf fcf gcl cc lc kc h0 n0) := by
  refine own_meets (plainFor_of_name pn_7) ?_
  intro p e s m below meth c s₁ hx hZ hby hml hown hnm hret hlk X0 e0
  have hown : s.vm.findClass "com/example/rackweave/rackweave/core/ChangeMarks" = some m.cls := hown
  have hnm : meth.name = "keep" := hnm
  refine own_finV (l := l) (R := ({ frames := 0, cells := 0, slots := 0, locals := 0 } : Room)) (m := m) (args := #[(.ref o)]) (c := c) hx hret hlk ?_
  refine own_cast (ef_7 m o) ?_
  have H0 := H
  obtain ⟨⟨o1, o2, o3, o4, o5⟩, hz, Ex, Fll, Flf, Fcf, Fcl, Fcc, Flc, Fkc, All, Alf, Acf, Acl⟩ := H0
  refine own_st (g1 := (mkF m 1 #[.val (.ref o)] [(.ref o)])) (fun zt zk => XS.aloadN X0.here hx rfl (hb hby d7_0) rfl rfl zk) ?_
  refine own_st (g1 := (mkF m 2 #[.val (.ref o)] [(.ref o), (.ref o)])) (fun zt zk => XS.aloadN X0.here hx rfl (hb hby d7_1) rfl rfl zk) ?_
  obtain ⟨T30, X30, e30, st30⟩ := getF X0 hx hZ hown (host := "") (Or.inl (hw _ (List.mem_of_getElem? (i := 37) rfl))) Via.refl e0 Fcc (g := (mkF m 2 #[.val (.ref o)] [(.ref o), (.ref o)])) rfl rfl (hb hby d7_2)
  refine own_st (g1 := (mkF m 5 #[.val (.ref o)] [(.int (Int32.ofNat cc)), (.ref o)])) (st30) ?_
  obtain ⟨T31, h31, X31, e31, W31, st31⟩ := putF X30 hx hZ hown (host := "") (Or.inl (hw _ (List.mem_of_getElem? (i := 47) rfl))) Via.refl e30 Fkc Ex (Or.inl (hw _ (List.mem_of_getElem? (i := 48) rfl))) (hw _ (List.mem_of_getElem? (i := 11) rfl)) (ty := .int) (by decide) rfl rfl (g := (mkF m 5 #[.val (.ref o)] [(.int (Int32.ofNat cc)), (.ref o)])) rfl rfl (hb hby d7_5)
  refine own_st (g1 := (mkF m 8 #[.val (.ref o)] [])) (st31) ?_
  have H1 := CM.fkc hw H W31
  have N1 := Fr.snoc X31 (Fr.nil n0) o1
  have K1 : Keep h0 h31 [o, ll, lf, cf, cl] := (Keep.refl h0 [o, ll, lf, cf, cl]).wr W31 (Or.inl (List.mem_of_getElem? (i := 0) rfl))
  have H1b := H1
  obtain ⟨⟨o1b, o2b, o3b, o4b, o5b⟩, hzb, Exb, Fllb, Flfb, Fcfb, Fclb, Fccb, Flcb, Fkcb, Allb, Alfb, Acfb, Aclb⟩ := H1b
  refine own_st (g1 := (mkF m 9 #[.val (.ref o)] [(.ref o)])) (fun zt zk => XS.aloadN X31.here hx rfl (hb hby d7_8) rfl rfl zk) ?_
  refine own_st (g1 := (mkF m 10 #[.val (.ref o)] [(.int (0 : Int32)), (.ref o)])) (fun zt zk => XS.iconst X31.here hx rfl (hb hby d7_9) zk) ?_
  obtain ⟨T32, h32, X32, e32, W32, st32⟩ := putF X31 hx hZ hown (host := "") (Or.inl (hw _ (List.mem_of_getElem? (i := 40) rfl))) Via.refl e31 Flcb Exb (Or.inl (hw _ (List.mem_of_getElem? (i := 41) rfl))) (hw _ (List.mem_of_getElem? (i := 11) rfl)) (ty := .int) (by decide) rfl rfl (g := (mkF m 10 #[.val (.ref o)] [(.int (0 : Int32)), (.ref o)])) rfl rfl (hb hby d7_10)
  refine own_st (g1 := (mkF m 13 #[.val (.ref o)] [])) (st32) ?_
  have H2 := CM.flc (x := 0) hw H1 W32
  have N2 := Fr.snoc X32 N1 o1
  have K2 : Keep h0 h32 [o, ll, lf, cf, cl] := K1.wr W32 (Or.inl (List.mem_of_getElem? (i := 0) rfl))
  exact own_here X32 ⟨13, _, rfl, (hb hby d7_13), (by decide), (by decide), (by rw [e32]; exact ⟨rfl, N2, K2, H2⟩)⟩
theorem d8_0 : decode prog_16_method_5_code 0 = .ok (.aload_n 0, 1) := by decide +kernel
theorem d8_1 : decode prog_16_method_5_code 1 = .ok (.getfield 35, 3) := by decide +kernel
theorem d8_4 : decode prog_16_method_5_code 4 = .ok (.iconst 1, 1) := by decide +kernel
theorem d8_5 : decode prog_16_method_5_code 5 = .ok (.isub, 1) := by decide +kernel
theorem d8_6 : decode prog_16_method_5_code 6 = .ok (.istore_n 1, 1) := by decide +kernel
theorem d8_7 : decode prog_16_method_5_code 7 = .ok (.iload_n 1, 1) := by decide +kernel
theorem d8_8 : decode prog_16_method_5_code 8 = .ok (.ifCond .lt 26, 3) := by decide +kernel
theorem d8_11 : decode prog_16_method_5_code 11 = .ok (.aload_n 0, 1) := by decide +kernel
theorem d8_12 : decode prog_16_method_5_code 12 = .ok (.getfield 16, 3) := by decide +kernel
theorem d8_15 : decode prog_16_method_5_code 15 = .ok (.aload_n 0, 1) := by decide +kernel
theorem d8_16 : decode prog_16_method_5_code 16 = .ok (.getfield 7, 3) := by decide +kernel
theorem d8_19 : decode prog_16_method_5_code 19 = .ok (.iload_n 1, 1) := by decide +kernel
theorem d8_20 : decode prog_16_method_5_code 20 = .ok (.iaload, 1) := by decide +kernel
theorem d8_21 : decode prog_16_method_5_code 21 = .ok (.aload_n 0, 1) := by decide +kernel
theorem d8_22 : decode prog_16_method_5_code 22 = .ok (.getfield 13, 3) := by decide +kernel
theorem d8_25 : decode prog_16_method_5_code 25 = .ok (.iload_n 1, 1) := by decide +kernel
theorem d8_26 : decode prog_16_method_5_code 26 = .ok (.iaload, 1) := by decide +kernel
theorem d8_27 : decode prog_16_method_5_code 27 = .ok (.iastore, 1) := by decide +kernel
theorem d8_28 : decode prog_16_method_5_code 28 = .ok (.iinc 1 (-1), 3) := by decide +kernel
theorem d8_31 : decode prog_16_method_5_code 31 = .ok (.goto (-24), 3) := by decide +kernel
theorem d8_34 : decode prog_16_method_5_code 34 = .ok (.aload_n 0, 1) := by decide +kernel
theorem d8_35 : decode prog_16_method_5_code 35 = .ok (.getfield 48, 3) := by decide +kernel
theorem d8_38 : decode prog_16_method_5_code 38 = .ok (.istore_n 1, 1) := by decide +kernel
theorem d8_39 : decode prog_16_method_5_code 39 = .ok (.iload_n 1, 1) := by decide +kernel
theorem d8_40 : decode prog_16_method_5_code 40 = .ok (.aload_n 0, 1) := by decide +kernel
theorem d8_41 : decode prog_16_method_5_code 41 = .ok (.getfield 31, 3) := by decide +kernel
theorem d8_44 : decode prog_16_method_5_code 44 = .ok (.if_icmp .ge 22, 3) := by decide +kernel
theorem d8_47 : decode prog_16_method_5_code 47 = .ok (.aload_n 0, 1) := by decide +kernel
theorem d8_48 : decode prog_16_method_5_code 48 = .ok (.getfield 16, 3) := by decide +kernel
theorem d8_51 : decode prog_16_method_5_code 51 = .ok (.aload_n 0, 1) := by decide +kernel
theorem d8_52 : decode prog_16_method_5_code 52 = .ok (.getfield 28, 3) := by decide +kernel
theorem d8_55 : decode prog_16_method_5_code 55 = .ok (.iload_n 1, 1) := by decide +kernel
theorem d8_56 : decode prog_16_method_5_code 56 = .ok (.iaload, 1) := by decide +kernel
theorem d8_57 : decode prog_16_method_5_code 57 = .ok (.ldc 21, 2) := by decide +kernel
theorem d8_59 : decode prog_16_method_5_code 59 = .ok (.iastore, 1) := by decide +kernel
theorem d8_60 : decode prog_16_method_5_code 60 = .ok (.iinc 1 1, 3) := by decide +kernel
theorem d8_63 : decode prog_16_method_5_code 63 = .ok (.goto (-24), 3) := by decide +kernel
theorem d8_66 : decode prog_16_method_5_code 66 = .ok (.aload_n 0, 1) := by decide +kernel
theorem d8_67 : decode prog_16_method_5_code 67 = .ok (.aload_n 0, 1) := by decide +kernel
theorem d8_68 : decode prog_16_method_5_code 68 = .ok (.getfield 48, 3) := by decide +kernel
theorem d8_71 : decode prog_16_method_5_code 71 = .ok (.putfield 31, 3) := by decide +kernel
theorem d8_74 : decode prog_16_method_5_code 74 = .ok (.aload_n 0, 1) := by decide +kernel
theorem d8_75 : decode prog_16_method_5_code 75 = .ok (.iconst 0, 1) := by decide +kernel
theorem d8_76 : decode prog_16_method_5_code 76 = .ok (.putfield 35, 3) := by decide +kernel
theorem d8_79 : decode prog_16_method_5_code 79 = .ok (.return_, 1) := by decide +kernel
theorem pn_8 : plainName "com/example/rackweave/rackweave/core/ChangeMarks" = true := by first | (simp [plainName, overriddenIn]; done) | decide +kernel
theorem ef_8 (m : MethodId) (x0 : Nat) : entryFrame m #[(.ref x0)] 2 = mkF m 0 #[.val (.ref x0), .unset] [] := by first | (simp [entryFrame, mkF, argsToLocals, Value.category]; done) | rfl
set_option maxRecDepth 65536 in
set_option maxHeartbeats 40000000 in
theorem loopA8 {p : Program} {l : Launch} {e : Env} {R : Room} {s : State} {m : MethodId} {args : Array Value} {below : List Frame} {meth : Method} {c : Code} {Z : State} {a0 : Array Value} (hx : p.tables.exec = Jvm.exec) (hZ : Z.Warmed39 s.vm) (hw : ∀ d ∈ tables_1, d.before a0 Z = true) (hby : c.code = prog_16_method_5_code) (hml : c.maxLocals = 2) (hown : s.vm.findClass "com/example/rackweave/rackweave/core/ChangeMarks" = some m.cls) (hnm : meth.name = "restore") (o ll lf cf cl : Nat) (gll : Nat → Nat) (flf : Nat → Int32) (gcl : Nat → Nat) (cc lc kc : Nat) (h0 : Heap) (n0 : Nat) (hg : ∀ j, gll j < 3) {cells slots : Nat} :
    ∀ (k : Nat) (f : Nat → Int32) (T0 : State) (L0 : List Loc) (h : Heap), k ≤ 16 → Stand p l e R s m args below meth c T0 L0 cells slots → T0.heap = h → Fr n0 L0 → Keep h0 h [o, ll, lf, cf, cl] → CM Z h n0 o ll lf cf cl gll flf f gcl cc lc kc →
      Goes p l e R s m args below meth c T0 (mkF m 7 #[.val (.ref o), .val (.int (Int32.ofNat k - (1 : Int32)))] []) (fun T' L' k' n' g' => k' = cells ∧ n' = slots ∧ (∃ z : Int32, g' = (mkF m 34 #[.val (.ref o), .val (.int z)] [])) ∧ Fr n0 L' ∧ Keep h0 T'.heap [o, ll, lf, cf, cl] ∧ CM Z T'.heap n0 o ll lf cf cl gll flf (own_undo gll flf k f) gcl cc lc kc) := by
  intro k
  induction k with
  | zero =>
    intro f T0 L0 h hk X e0 N K H
    refine own_st (g1 := (mkF m 8 #[.val (.ref o), .val (.int (Int32.ofNat 0 - (1 : Int32)))] [(.int (Int32.ofNat 0 - (1 : Int32)))])) (fun zt zk => XS.iloadN X.here hx rfl (hb hby d8_7) rfl zk) ?_
    refine own_st (g1 := (mkF m 34 #[.val (.ref o), .val (.int (Int32.ofNat 0 - (1 : Int32)))] [])) (fun zt zk => XS.ifYes X.here hx rfl (pc0 := 8) (pc' := 34) rfl (hb hby d8_8) rfl ((if0 _ _).trans (tlt (by decide)).1) (by decide) (by decide) zk) ?_
    exact own_here X ⟨rfl, rfl, ⟨_, rfl⟩, N, by rw [e0]; exact K, by rw [e0]; exact H⟩
  | succ k ih =>
    intro f T0 L0 h hk X e0 N K H
    rw [own_pred k]
    have H0 := H
    obtain ⟨⟨o1, o2, o3, o4, o5⟩, hz, Ex, Fll, Flf, Fcf, Fcl, Fcc, Flc, Fkc, All, Alf, Acf, Acl⟩ := H0
    refine own_st (g1 := (mkF m 8 #[.val (.ref o), .val (.int (Int32.ofNat k))] [(.int (Int32.ofNat k))])) (fun zt zk => XS.iloadN X.here hx rfl (hb hby d8_7) rfl zk) ?_
    refine own_st (g1 := (mkF m 11 #[.val (.ref o), .val (.int (Int32.ofNat k))] [])) (fun zt zk => XS.ifNo X.here hx rfl (hb hby d8_8) rfl ((if0 _ _).trans (flt (own_nn (by omega))).1) zk) ?_
    refine own_st (g1 := (mkF m 12 #[.val (.ref o), .val (.int (Int32.ofNat k))] [(.ref o)])) (fun zt zk => XS.aloadN X.here hx rfl (hb hby d8_11) rfl rfl zk) ?_
    obtain ⟨T33, X33, e33, st33⟩ := getF X hx hZ hown (host := "") (Or.inl (hw _ (List.mem_of_getElem? (i := 23) rfl))) Via.refl e0 Fcf (g := (mkF m 12 #[.val (.ref o), .val (.int (Int32.ofNat k))] [(.ref o)])) rfl rfl (hb hby d8_12)
    refine own_st (g1 := (mkF m 15 #[.val (.ref o), .val (.int (Int32.ofNat k))] [(.ref cf)])) (st33) ?_
    refine own_st (g1 := (mkF m 16 #[.val (.ref o), .val (.int (Int32.ofNat k))] [(.ref o), (.ref cf)])) (fun zt zk => XS.aloadN X33.here hx rfl (hb hby d8_15) rfl rfl zk) ?_
    obtain ⟨T34, X34, e34, st34⟩ := getF X33 hx hZ hown (host := "") (Or.inl (hw _ (List.mem_of_getElem? (i := 19) rfl))) Via.refl e33 Fll (g := (mkF m 16 #[.val (.ref o), .val (.int (Int32.ofNat k))] [(.ref o), (.ref cf)])) rfl rfl (hb hby d8_16)
    refine own_st (g1 := (mkF m 19 #[.val (.ref o), .val (.int (Int32.ofNat k))] [(.ref ll), (.ref cf)])) (st34) ?_
    refine own_st (g1 := (mkF m 20 #[.val (.ref o), .val (.int (Int32.ofNat k))] [(.int (Int32.ofNat k)), (.ref ll), (.ref cf)])) (fun zt zk => XS.iloadN X34.here hx rfl (hb hby d8_19) rfl zk) ?_
    refine own_st (g1 := (mkF m 21 #[.val (.ref o), .val (.int (Int32.ofNat k))] [(.int (Int32.ofNat (gll k))), (.ref cf)])) (own_ild X34 hx hZ e34 All (j := k) (v := (.int (Int32.ofNat (gll k)))) rfl (by omega) (by decide) rfl (g := (mkF m 20 #[.val (.ref o), .val (.int (Int32.ofNat k))] [(.int (Int32.ofNat k)), (.ref ll), (.ref cf)])) rfl rfl (hb hby d8_20)) ?_
    refine own_st (g1 := (mkF m 22 #[.val (.ref o), .val (.int (Int32.ofNat k))] [(.ref o), (.int (Int32.ofNat (gll k))), (.ref cf)])) (fun zt zk => XS.aloadN X34.here hx rfl (hb hby d8_21) rfl rfl zk) ?_
    obtain ⟨T35, X35, e35, st35⟩ := getF X34 hx hZ hown (host := "") (Or.inl (hw _ (List.mem_of_getElem? (i := 21) rfl))) Via.refl e34 Flf (g := (mkF m 22 #[.val (.ref o), .val (.int (Int32.ofNat k))] [(.ref o), (.int (Int32.ofNat (gll k))), (.ref cf)])) rfl rfl (hb hby d8_22)
    refine own_st (g1 := (mkF m 25 #[.val (.ref o), .val (.int (Int32.ofNat k))] [(.ref lf), (.int (Int32.ofNat (gll k))), (.ref cf)])) (st35) ?_
    refine own_st (g1 := (mkF m 26 #[.val (.ref o), .val (.int (Int32.ofNat k))] [(.int (Int32.ofNat k)), (.ref lf), (.int (Int32.ofNat (gll k))), (.ref cf)])) (fun zt zk => XS.iloadN X35.here hx rfl (hb hby d8_25) rfl zk) ?_
    refine own_st (g1 := (mkF m 27 #[.val (.ref o), .val (.int (Int32.ofNat k))] [(.int (flf k)), (.int (Int32.ofNat (gll k))), (.ref cf)])) (own_ild X35 hx hZ e35 Alf (j := k) (v := (.int (flf k))) rfl (by omega) (by decide) rfl (g := (mkF m 26 #[.val (.ref o), .val (.int (Int32.ofNat k))] [(.int (Int32.ofNat k)), (.ref lf), (.int (Int32.ofNat (gll k))), (.ref cf)])) rfl rfl (hb hby d8_26)) ?_
    obtain ⟨T36, h36, X36, e36, W36, st36⟩ := own_ist X35 hx hZ e35 Acf (j := (gll k)) rfl (hg k) (by decide) (g := (mkF m 27 #[.val (.ref o), .val (.int (Int32.ofNat k))] [(.int (flf k)), (.int (Int32.ofNat (gll k))), (.ref cf)])) rfl rfl (hb hby d8_27)
    refine own_st (g1 := (mkF m 28 #[.val (.ref o), .val (.int (Int32.ofNat k))] [])) (st36) ?_
    refine own_st (g1 := (mkF m 31 #[.val (.ref o), .val (.int ((Int32.ofNat k) + (-1 : Int32)))] [])) (fun zt zk => XS.iinc X36.here hx rfl (hb hby d8_28) rfl (l' := #[.val (.ref o), .val (.int ((Int32.ofNat k) + (-1 : Int32)))]) rfl zk) ?_
    rw [own_dec k]
    refine own_st (g1 := (mkF m 7 #[.val (.ref o), .val (.int (Int32.ofNat k - (1 : Int32)))] [])) (fun zt zk => XS.goto X36.here hx rfl (pc0 := 31) (pc' := 7) rfl (hb hby d8_31) (by decide) (by decide) zk) ?_
    exact ih (upd f (gll k) (flf k)) T36 _ h36 (by omega) X36 e36 (Fr.snoc X36 N (by omega)) (K.wr W36 (Or.inl (List.mem_of_getElem? (i := 3) rfl))) (CM.wcf H W36)
set_option maxRecDepth 65536 in
set_option maxHeartbeats 40000000 in
theorem loopB8 {p : Program} {l : Launch} {e : Env} {R : Room} {s : State} {m : MethodId} {args : Array Value} {below : List Frame} {meth : Method} {c : Code} {Z : State} {a0 : Array Value} (hx : p.tables.exec = Jvm.exec) (hZ : Z.Warmed39 s.vm) (hw : ∀ d ∈ tables_1, d.before a0 Z = true) (hby : c.code = prog_16_method_5_code) (hml : c.maxLocals = 2) (hown : s.vm.findClass "com/example/rackweave/rackweave/core/ChangeMarks" = some m.cls) (hnm : meth.name = "restore") (o ll lf cf cl : Nat) (gll : Nat → Nat) (flf : Nat → Int32) (gcl : Nat → Nat) (cc lc kc : Nat) (h0 : Heap) (n0 : Nat) (hg : ∀ j, gcl j < 3) (hcc : cc ≤ 3) {cells slots : Nat} :
    ∀ (k i : Nat) (f : Nat → Int32) (T0 : State) (L0 : List Loc) (h : Heap), i + k = cc → Stand p l e R s m args below meth c T0 L0 cells slots → T0.heap = h → Fr n0 L0 → Keep h0 h [o, ll, lf, cf, cl] → CM Z h n0 o ll lf cf cl gll flf f gcl cc lc kc →
      Goes p l e R s m args below meth c T0 (mkF m 39 #[.val (.ref o), .val (.int (Int32.ofNat i))] []) (fun T' L' k' n' g' => k' = cells ∧ n' = slots ∧ (∃ z : Int32, g' = (mkF m 66 #[.val (.ref o), .val (.int z)] [])) ∧ Fr n0 L' ∧ Keep h0 T'.heap [o, ll, lf, cf, cl] ∧ CM Z T'.heap n0 o ll lf cf cl gll flf (own_wipe gcl k i f) gcl cc lc kc) := by
  intro k
  induction k with
  | zero =>
    intro i f T0 L0 h hik X e0 N K H
    have H0 := H
    obtain ⟨⟨o1, o2, o3, o4, o5⟩, hz, Ex, Fll, Flf, Fcf, Fcl, Fcc, Flc, Fkc, All, Alf, Acf, Acl⟩ := H0
    refine own_st (g1 := (mkF m 40 #[.val (.ref o), .val (.int (Int32.ofNat i))] [(.int (Int32.ofNat i))])) (fun zt zk => XS.iloadN X.here hx rfl (hb hby d8_39) rfl zk) ?_
    refine own_st (g1 := (mkF m 41 #[.val (.ref o), .val (.int (Int32.ofNat i))] [(.ref o), (.int (Int32.ofNat i))])) (fun zt zk => XS.aloadN X.here hx rfl (hb hby d8_40) rfl rfl zk) ?_
    obtain ⟨T37, X37, e37, st37⟩ := getF X hx hZ hown (host := "") (Or.inl (hw _ (List.mem_of_getElem? (i := 37) rfl))) Via.refl e0 Fcc (g := (mkF m 41 #[.val (.ref o), .val (.int (Int32.ofNat i))] [(.ref o), (.int (Int32.ofNat i))])) rfl rfl (hb hby d8_41)
    refine own_st (g1 := (mkF m 44 #[.val (.ref o), .val (.int (Int32.ofNat i))] [(.int (Int32.ofNat cc)), (.int (Int32.ofNat i))])) (st37) ?_
    refine own_st (g1 := (mkF m 66 #[.val (.ref o), .val (.int (Int32.ofNat i))] [])) (fun zt zk => XS.icmpYes X37.here hx rfl (pc0 := 44) (pc' := 66) rfl (hb hby d8_44) rfl (flt (fun u => by have := (own_lt (i := i) (j := cc) (by omega) (by omega)).mp u; omega)).2.1 (by decide) (by decide) zk) ?_
    exact own_here X37 ⟨rfl, rfl, ⟨_, rfl⟩, N, by rw [e37]; exact K, by rw [e37]; exact H⟩
  | succ k ih =>
    intro i f T0 L0 h hik X e0 N K H
    have H0 := H
    obtain ⟨⟨o1, o2, o3, o4, o5⟩, hz, Ex, Fll, Flf, Fcf, Fcl, Fcc, Flc, Fkc, All, Alf, Acf, Acl⟩ := H0
    refine own_st (g1 := (mkF m 40 #[.val (.ref o), .val (.int (Int32.ofNat i))] [(.int (Int32.ofNat i))])) (fun zt zk => XS.iloadN X.here hx rfl (hb hby d8_39) rfl zk) ?_
    refine own_st (g1 := (mkF m 41 #[.val (.ref o), .val (.int (Int32.ofNat i))] [(.ref o), (.int (Int32.ofNat i))])) (fun zt zk => XS.aloadN X.here hx rfl (hb hby d8_40) rfl rfl zk) ?_
    obtain ⟨T38, X38, e38, st38⟩ := getF X hx hZ hown (host := "") (Or.inl (hw _ (List.mem_of_getElem? (i := 37) rfl))) Via.refl e0 Fcc (g := (mkF m 41 #[.val (.ref o), .val (.int (Int32.ofNat i))] [(.ref o), (.int (Int32.ofNat i))])) rfl rfl (hb hby d8_41)
    refine own_st (g1 := (mkF m 44 #[.val (.ref o), .val (.int (Int32.ofNat i))] [(.int (Int32.ofNat cc)), (.int (Int32.ofNat i))])) (st38) ?_
    refine own_st (g1 := (mkF m 47 #[.val (.ref o), .val (.int (Int32.ofNat i))] [])) (fun zt zk => XS.icmpNo X38.here hx rfl (hb hby d8_44) rfl (tlt ((own_lt (i := i) (j := cc) (by omega) (by omega)).mpr (by omega))).2.1 zk) ?_
    refine own_st (g1 := (mkF m 48 #[.val (.ref o), .val (.int (Int32.ofNat i))] [(.ref o)])) (fun zt zk => XS.aloadN X38.here hx rfl (hb hby d8_47) rfl rfl zk) ?_
    obtain ⟨T39, X39, e39, st39⟩ := getF X38 hx hZ hown (host := "") (Or.inl (hw _ (List.mem_of_getElem? (i := 23) rfl))) Via.refl e38 Fcf (g := (mkF m 48 #[.val (.ref o), .val (.int (Int32.ofNat i))] [(.ref o)])) rfl rfl (hb hby d8_48)
    refine own_st (g1 := (mkF m 51 #[.val (.ref o), .val (.int (Int32.ofNat i))] [(.ref cf)])) (st39) ?_
    refine own_st (g1 := (mkF m 52 #[.val (.ref o), .val (.int (Int32.ofNat i))] [(.ref o), (.ref cf)])) (fun zt zk => XS.aloadN X39.here hx rfl (hb hby d8_51) rfl rfl zk) ?_
    obtain ⟨T40, X40, e40, st40⟩ := getF X39 hx hZ hown (host := "") (Or.inl (hw _ (List.mem_of_getElem? (i := 30) rfl))) Via.refl e39 Fcl (g := (mkF m 52 #[.val (.ref o), .val (.int (Int32.ofNat i))] [(.ref o), (.ref cf)])) rfl rfl (hb hby d8_52)
    refine own_st (g1 := (mkF m 55 #[.val (.ref o), .val (.int (Int32.ofNat i))] [(.ref cl), (.ref cf)])) (st40) ?_
    refine own_st (g1 := (mkF m 56 #[.val (.ref o), .val (.int (Int32.ofNat i))] [(.int (Int32.ofNat i)), (.ref cl), (.ref cf)])) (fun zt zk => XS.iloadN X40.here hx rfl (hb hby d8_55) rfl zk) ?_
    refine own_st (g1 := (mkF m 57 #[.val (.ref o), .val (.int (Int32.ofNat i))] [(.int (Int32.ofNat (gcl i))), (.ref cf)])) (own_ild X40 hx hZ e40 Acl (j := i) (v := (.int (Int32.ofNat (gcl i)))) rfl (by omega) (by decide) rfl (g := (mkF m 56 #[.val (.ref o), .val (.int (Int32.ofNat i))] [(.int (Int32.ofNat i)), (.ref cl), (.ref cf)])) rfl rfl (hb hby d8_56)) ?_
    refine own_st (g1 := (mkF m 59 #[.val (.ref o), .val (.int (Int32.ofNat i))] [(.int (2147483647 : Int32)), (.int (Int32.ofNat (gcl i))), (.ref cf)])) (X40.ldcInt hx hown (mvT hZ (hw _ (List.mem_of_getElem? (i := 25) rfl))) (g := (mkF m 57 #[.val (.ref o), .val (.int (Int32.ofNat i))] [(.int (Int32.ofNat (gcl i))), (.ref cf)])) rfl (hb hby d8_57)) ?_
    obtain ⟨T41, h41, X41, e41, W41, st41⟩ := own_ist X40 hx hZ e40 Acf (j := (gcl i)) rfl (hg i) (by decide) (g := (mkF m 59 #[.val (.ref o), .val (.int (Int32.ofNat i))] [(.int (2147483647 : Int32)), (.int (Int32.ofNat (gcl i))), (.ref cf)])) rfl rfl (hb hby d8_59)
    refine own_st (g1 := (mkF m 60 #[.val (.ref o), .val (.int (Int32.ofNat i))] [])) (st41) ?_
    refine own_st (g1 := (mkF m 63 #[.val (.ref o), .val (.int ((Int32.ofNat i) + (1 : Int32)))] [])) (fun zt zk => XS.iinc X41.here hx rfl (hb hby d8_60) rfl (l' := #[.val (.ref o), .val (.int ((Int32.ofNat i) + (1 : Int32)))]) rfl zk) ?_
    rw [own_succ i]
    refine own_st (g1 := (mkF m 39 #[.val (.ref o), .val (.int (Int32.ofNat (i + 1)))] [])) (fun zt zk => XS.goto X41.here hx rfl (pc0 := 63) (pc' := 39) rfl (hb hby d8_63) (by decide) (by decide) zk) ?_
    exact ih (i + 1) (upd f (gcl i) (2147483647 : Int32)) T41 _ h41 (by omega) X41 e41 (Fr.snoc X41 N (by omega)) (K.wr W41 (Or.inl (List.mem_of_getElem? (i := 3) rfl))) (CM.wcf H W41)
def Q8 (Z : State) (o ll lf cf cl : Nat) (gll : Nat → Nat) (flf fcf : Nat → Int32) (gcl : Nat → Nat) (cc lc kc : Nat) (h0 : Heap) (n0 : Nat) (r : Option Value) (h : Heap) (L : List Loc) : Prop := r = none ∧ Fr n0 L ∧ Keep h0 h [o, ll, lf, cf, cl] ∧ CM Z h n0 o ll lf cf cl gll flf (own_wipe gcl (cc - kc) kc (own_undo gll flf lc fcf)) gcl kc 0 kc
set_option maxRecDepth 65536 in
set_option maxHeartbeats 40000000 in
theorem rm8 (l : Launch) (Z : State) (a0 : Array Value) (hw : ∀ d ∈ tables_1, d.before a0 Z = true) (ws : List Jvm.Cond) (o ll lf cf cl : Nat) (gll : Nat → Nat) (flf fcf : Nat → Int32) (gcl : Nat → Nat) (cc lc kc : Nat) (h0 : Heap) (n0 : Nat) (hg1 : ∀ j, gll j < 3) (hg2 : ∀ j, gcl j < 3) (hlc : lc ≤ 16) (hcc : cc ≤ 3) (hkc : kc ≤ cc) (H : CM Z h0 n0 o ll lf cf cl gll flf fcf gcl cc lc kc) :
    Meets l Z (⟨"com/example/rackweave/rackweave/core/ChangeMarks", "restore", "()V"⟩ : MethodName) prog_16_method_5_code 2 none ws ({ frames := 0, cells := 0, slots := 0, locals := 0 } : Room) #[(.ref o)] h0 0 0 (Q8 Z o ll lf cf cl gll flf fcf gcl cc lc kc h0 n0) := by
  refine own_meets (plainFor_of_name pn_8) ?_
  intro p e s m below meth c s₁ hx hZ hby hml hown hnm hret hlk X0 e0
  have hown : s.vm.findClass "com/example/rackweave/rackweave/core/ChangeMarks" = some m.cls := hown
  have hnm : meth.name = "restore" := hnm
  refine own_finV (l := l) (R := ({ frames := 0, cells := 0, slots := 0, locals := 0 } : Room)) (m := m) (args := #[(.ref o)]) (c := c) hx hret hlk ?_
  refine own_cast (ef_8 m o) ?_
  have H0 := H
  obtain ⟨⟨o1, o2, o3, o4, o5⟩, hz, Ex, Fll, Flf, Fcf, Fcl, Fcc, Flc, Fkc, All, Alf, Acf, Acl⟩ := H0
  refine own_st (g1 := (mkF m 1 #[.val (.ref o), .unset] [(.ref o)])) (fun zt zk => XS.aloadN X0.here hx rfl (hb hby d8_0) rfl rfl zk) ?_
  obtain ⟨T42, X42, e42, st42⟩ := getF X0 hx hZ hown (host := "") (Or.inl (hw _ (List.mem_of_getElem? (i := 40) rfl))) Via.refl e0 Flc (g := (mkF m 1 #[.val (.ref o), .unset] [(.ref o)])) rfl rfl (hb hby d8_1)
  refine own_st (g1 := (mkF m 4 #[.val (.ref o), .unset] [(.int (Int32.ofNat lc))])) (st42) ?_
  refine own_st (g1 := (mkF m 5 #[.val (.ref o), .unset] [(.int (1 : Int32)), (.int (Int32.ofNat lc))])) (fun zt zk => XS.iconst X42.here hx rfl (hb hby d8_4) zk) ?_
  refine own_st (g1 := (mkF m 6 #[.val (.ref o), .unset] [(.int ((Int32.ofNat lc) - (1 : Int32)))])) (fun zt zk => XS.isub X42.here hx rfl (hb hby d8_5) rfl zk) ?_
  refine own_st (g1 := (mkF m 7 #[.val (.ref o), .val (.int ((Int32.ofNat lc) - (1 : Int32)))] [])) (fun zt zk => XS.istoreN X42.here hx rfl (hb hby d8_6) rfl (l' := #[.val (.ref o), .val (.int ((Int32.ofNat lc) - (1 : Int32)))]) rfl zk) ?_
  refine own_bind (loopA8 hx hZ hw hby hml hown hnm o ll lf cf cl gll flf gcl cc lc kc h0 n0 hg1 lc fcf T42 [] h0 hlc X42 e42 (Fr.nil n0) (Keep.refl h0 _) H) ?_
  rintro T1 L1 _ _ _ X1 ⟨rfl, rfl, ⟨z1, rfl⟩, N1, K1, H1⟩
  have H1b := H1
  obtain ⟨⟨o1b, o2b, o3b, o4b, o5b⟩, hzb, Exb, Fllb, Flfb, Fcfb, Fclb, Fccb, Flcb, Fkcb, Allb, Alfb, Acfb, Aclb⟩ := H1b
  refine own_st (g1 := (mkF m 35 #[.val (.ref o), .val (.int z1)] [(.ref o)])) (fun zt zk => XS.aloadN X1.here hx rfl (hb hby d8_34) rfl rfl zk) ?_
  obtain ⟨T43, X43, e43, st43⟩ := getF X1 hx hZ hown (host := "") (Or.inl (hw _ (List.mem_of_getElem? (i := 47) rfl))) Via.refl rfl Fkcb (g := (mkF m 35 #[.val (.ref o), .val (.int z1)] [(.ref o)])) rfl rfl (hb hby d8_35)
  refine own_st (g1 := (mkF m 38 #[.val (.ref o), .val (.int z1)] [(.int (Int32.ofNat kc))])) (st43) ?_
  refine own_st (g1 := (mkF m 39 #[.val (.ref o), .val (.int (Int32.ofNat kc))] [])) (fun zt zk => XS.istoreN X43.here hx rfl (hb hby d8_38) rfl (l' := #[.val (.ref o), .val (.int (Int32.ofNat kc))]) rfl zk) ?_
  refine own_bind (loopB8 hx hZ hw hby hml hown hnm o ll lf cf cl gll flf gcl cc lc kc h0 n0 hg2 hcc (cc - kc) kc (own_undo gll flf lc fcf) T43 L1 _ (by omega) X43 e43 N1 K1 H1) ?_
  rintro T2 L2 _ _ _ X2 ⟨rfl, rfl, ⟨z2, rfl⟩, N2, K2, H2⟩
  have H2b := H2
  obtain ⟨⟨o1c, o2c, o3c, o4c, o5c⟩, hzc, Exc, Fllc, Flfc, Fcfc, Fclc, Fccc, Flcc, Fkcc, Allc, Alfc, Acfc, Aclc⟩ := H2b
  refine own_st (g1 := (mkF m 67 #[.val (.ref o), .val (.int z2)] [(.ref o)])) (fun zt zk => XS.aloadN X2.here hx rfl (hb hby d8_66) rfl rfl zk) ?_
  refine own_st (g1 := (mkF m 68 #[.val (.ref o), .val (.int z2)] [(.ref o), (.ref o)])) (fun zt zk => XS.aloadN X2.here hx rfl (hb hby d8_67) rfl rfl zk) ?_
  obtain ⟨T44, X44, e44, st44⟩ := getF X2 hx hZ hown (host := "") (Or.inl (hw _ (List.mem_of_getElem? (i := 47) rfl))) Via.refl rfl Fkcc (g := (mkF m 68 #[.val (.ref o), .val (.int z2)] [(.ref o), (.ref o)])) rfl rfl (hb hby d8_68)
  refine own_st (g1 := (mkF m 71 #[.val (.ref o), .val (.int z2)] [(.int (Int32.ofNat kc)), (.ref o)])) (st44) ?_
  obtain ⟨T45, h45, X45, e45, W45, st45⟩ := putF X44 hx hZ hown (host := "") (Or.inl (hw _ (List.mem_of_getElem? (i := 37) rfl))) Via.refl e44 Fccc Exc (Or.inl (hw _ (List.mem_of_getElem? (i := 38) rfl))) (hw _ (List.mem_of_getElem? (i := 11) rfl)) (ty := .int) (by decide) rfl rfl (g := (mkF m 71 #[.val (.ref o), .val (.int z2)] [(.int (Int32.ofNat kc)), (.ref o)])) rfl rfl (hb hby d8_71)
  refine own_st (g1 := (mkF m 74 #[.val (.ref o), .val (.int z2)] [])) (st45) ?_
  have H3 := CM.fcc hw H2 W45
  have N3 := Fr.snoc X45 N2 o1
  have K3 : Keep h0 h45 [o, ll, lf, cf, cl] := K2.wr W45 (Or.inl (List.mem_of_getElem? (i := 0) rfl))
  have H3b := H3
  obtain ⟨⟨o1d, o2d, o3d, o4d, o5d⟩, hzd, Exd, Flld, Flfd, Fcfd, Fcld, Fccd, Flcd, Fkcd, Alld, Alfd, Acfd, Acld⟩ := H3b
  refine own_st (g1 := (mkF m 75 #[.val (.ref o), .val (.int z2)] [(.ref o)])) (fun zt zk => XS.aloadN X45.here hx rfl (hb hby d8_74) rfl rfl zk) ?_
  refine own_st (g1 := (mkF m 76 #[.val (.ref o), .val (.int z2)] [(.int (0 : Int32)), (.ref o)])) (fun zt zk => XS.iconst X45.here hx rfl (hb hby d8_75) zk) ?_
  obtain ⟨T46, h46, X46, e46, W46, st46⟩ := putF X45 hx hZ hown (host := "") (Or.inl (hw _ (List.mem_of_getElem? (i := 40) rfl))) Via.refl e45 Flcd Exd (Or.inl (hw _ (List.mem_of_getElem? (i := 41) rfl))) (hw _ (List.mem_of_getElem? (i := 11) rfl)) (ty := .int) (by decide) rfl rfl (g := (mkF m 76 #[.val (.ref o), .val (.int z2)] [(.int (0 : Int32)), (.ref o)])) rfl rfl (hb hby d8_76)
  refine own_st (g1 := (mkF m 79 #[.val (.ref o), .val (.int z2)] [])) (st46) ?_
  have H4 := CM.flc (x := 0) hw H3 W46
  have N4 := Fr.snoc X46 N3 o1
  have K4 : Keep h0 h46 [o, ll, lf, cf, cl] := K3.wr W46 (Or.inl (List.mem_of_getElem? (i := 0) rfl))
  exact own_here X46 ⟨79, _, rfl, (hb hby d8_79), (by decide), (by decide), (by rw [e46]; exact ⟨rfl, N4, K4, H4⟩)⟩
theorem d9_0 : decode prog_16_method_3_code 0 = .ok (.aload_n 0, 1) := by decide +kernel
theorem d9_1 : decode prog_16_method_3_code 1 = .ok (.getfield 16, 3) := by decide +kernel
theorem d9_4 : decode prog_16_method_3_code 4 = .ok (.iload_n 1, 1) := by decide +kernel
theorem d9_5 : decode prog_16_method_3_code 5 = .ok (.iaload, 1) := by decide +kernel
theorem d9_6 : decode prog_16_method_3_code 6 = .ok (.ireturn, 1) := by decide +kernel
theorem pn_9 : plainName "com/example/rackweave/rackweave/core/ChangeMarks" = true := by first | (simp [plainName, overriddenIn]; done) | decide +kernel
theorem ef_9 (m : MethodId) (x0 : Nat) (x1 : Int32) : entryFrame m #[(.ref x0), (.int x1)] 2 = mkF m 0 #[.val (.ref x0), .val (.int x1)] [] := by first | (simp [entryFrame, mkF, argsToLocals, Value.category]; done) | rfl
def Q9 (z : Int32) (h0 : Heap) (n0 : Nat) (r : Option Value) (h : Heap) (L : List Loc) : Prop := r = some (.int z) ∧ Fr n0 L ∧ h = h0
set_option maxRecDepth 65536 in
set_option maxHeartbeats 40000000 in
theorem rm9 (l : Launch) (Z : State) (a0 : Array Value) (hw : ∀ d ∈ tables_1, d.before a0 Z = true) (ws : List Jvm.Cond) (i : Nat) (o ll lf cf cl : Nat) (gll : Nat → Nat) (flf fcf : Nat → Int32) (gcl : Nat → Nat) (cc lc kc : Nat) (h0 : Heap) (n0 : Nat) (hi : i < 3) (H : CM Z h0 n0 o ll lf cf cl gll flf fcf gcl cc lc kc) :
    Meets l Z (⟨"com/example/rackweave/rackweave/core/ChangeMarks", "changedFrom", "(I)I"⟩ : MethodName) prog_16_method_3_code 2 (some .int) ws ({ frames := 0, cells := 0, slots := 0, locals := 0 } : Room) #[(.ref o), (.int (Int32.ofNat i))] h0 0 0 (Q9 (fcf i) h0 n0) := by
  refine own_meets (plainFor_of_name pn_9) ?_
  intro p e s m below meth c s₁ hx hZ hby hml hown hnm hret hlk X0 e0
  have hown : s.vm.findClass "com/example/rackweave/rackweave/core/ChangeMarks" = some m.cls := hown
  have hnm : meth.name = "changedFrom" := hnm
  refine own_finN (l := l) (R := ({ frames := 0, cells := 0, slots := 0, locals := 0 } : Room)) (m := m) (args := #[(.ref o), (.int (Int32.ofNat i))]) (c := c) (by simp) hx hret hlk ?_
  refine own_cast (ef_9 m o (Int32.ofNat i)) ?_
  obtain ⟨⟨o1, o2, o3, o4, o5⟩, hz, Ex, Fll, Flf, Fcf, Fcl, Fcc, Flc, Fkc, All, Alf, Acf, Acl⟩ := H
  refine own_st (g1 := (mkF m 1 #[.val (.ref o), .val (.int (Int32.ofNat i))] [(.ref o)])) (fun zt zk => XS.aloadN X0.here hx rfl (hb hby d9_0) rfl rfl zk) ?_
  obtain ⟨T47, X47, e47, st47⟩ := getF X0 hx hZ hown (host := "") (Or.inl (hw _ (List.mem_of_getElem? (i := 23) rfl))) Via.refl e0 Fcf (g := (mkF m 1 #[.val (.ref o), .val (.int (Int32.ofNat i))] [(.ref o)])) rfl rfl (hb hby d9_1)
  refine own_st (g1 := (mkF m 4 #[.val (.ref o), .val (.int (Int32.ofNat i))] [(.ref cf)])) (st47) ?_
  refine own_st (g1 := (mkF m 5 #[.val (.ref o), .val (.int (Int32.ofNat i))] [(.int (Int32.ofNat i)), (.ref cf)])) (fun zt zk => XS.iloadN X47.here hx rfl (hb hby d9_4) rfl zk) ?_
  refine own_st (g1 := (mkF m 6 #[.val (.ref o), .val (.int (Int32.ofNat i))] [(.int (fcf i))])) (own_ild X47 hx hZ e47 Acf (j := i) (v := (.int (fcf i))) rfl hi (by decide) rfl (g := (mkF m 5 #[.val (.ref o), .val (.int (Int32.ofNat i))] [(.int (Int32.ofNat i)), (.ref cf)])) rfl rfl (hb hby d9_5)) ?_
  exact own_here X47 ⟨6, _, _, rfl, (hb hby d9_6), rfl, (by decide), (by decide), (by rw [e47]; exact ⟨rfl, Fr.nil n0, rfl⟩)⟩
theorem pn_0 : plainName "com/example/rackweave/rackweave/core/ChangeMarksRestorePinLaw" = true := by first | (simp [plainName, overriddenIn]; done) | decide +kernel
theorem ef_0 (m : MethodId) (x0 : Int32) (x1 : Int32) (x2 : Int32) (x3 : Int32) (x4 : Int32) : entryFrame m #[(.int x0), (.int x1), (.int x2), (.int x3), (.int x4)] maxLocals = mkF m 0 #[.val (.int x0), .val (.int x1), .val (.int x2), .val (.int x3), .val (.int x4), .unset, .unset, .unset, .unset, .unset, .unset, .unset, .unset, .unset, .unset] [] := by first | (simp [entryFrame, mkF, argsToLocals, Value.category, maxLocals]; done) | rfl
def Q0 (h0 : Heap) (n0 : Nat) (v : Option Value) (h : Heap) (L : List Loc) : Prop := v = some (.int (1 : Int32)) ∧ Fr n0 L
set_option maxRecDepth 65536 in
set_option maxHeartbeats 40000000 in
theorem rm0 (l : Launch) (Z : State) (a0 : Array Value) (hw : ∀ d ∈ tables_1, d.before a0 Z = true) (ws : List Jvm.Cond) (p1 : Int32) (p2 : Int32) (p3 : Int32) (p4 : Int32) (p5 : Int32) (h0 : Heap) (n0 : Nat) (Z0 : n0 ≤ h0.size) :
    Meets l Z x code maxLocals ret ws room_1 #[(.int p1), (.int p2), (.int p3), (.int p4), (.int p5)] h0 6 48 (Q0 h0 n0) := by
  refine own_meets (plainFor_of_name pn_0) ?_
  intro p e s m below meth c s₁ hx hZ hby hml hown hnm hret hlk X0 e0
  have hown : s.vm.findClass "com/example/rackweave/rackweave/core/ChangeMarksRestorePinLaw" = some m.cls := hown
  have hnm : meth.name = "law" := hnm
  refine own_finN (l := l) (R := room_1) (m := m) (args := #[(.int p1), (.int p2), (.int p3), (.int p4), (.int p5)]) (c := c) (by simp) hx hret hlk ?_
  refine own_cast (ef_0 m p1 p2 p3 p4 p5) ?_
  refine own_st (g1 := (mkF m 1 #[.val (.int p1), .val (.int p2), .val (.int p3), .val (.int p4), .val (.int p5), .unset, .unset, .unset, .unset, .unset, .unset, .unset, .unset, .unset, .unset] [(.int p1)])) (fun zt zk => XS.iloadN X0.here hx rfl (hb hby at_0) rfl zk) ?_
  refine own_st (g1 := (mkF m 4 #[.val (.int p1), .val (.int p2), .val (.int p3), .val (.int p4), .val (.int p5), .unset, .unset, .unset, .unset, .unset, .unset, .unset, .unset, .unset, .unset] [(.int (255 : Int32)), (.int p1)])) (fun zt zk => XS.sipush X0.here hx rfl (hb hby at_1) zk) ?_
  refine own_st (g1 := (mkF m 5 #[.val (.int p1), .val (.int p2), .val (.int p3), .val (.int p4), .val (.int p5), .unset, .unset, .unset, .unset, .unset, .unset, .unset, .unset, .unset, .unset] [(.int (p1 &&& (255 : Int32)))])) (fun zt zk => XS.iand X0.here hx rfl (hb hby at_4) rfl zk) ?_
  refine own_st (g1 := (mkF m 6 #[.val (.int p1), .val (.int p2), .val (.int p3), .val (.int p4), .val (.int p5), .unset, .unset, .unset, .unset, .unset, .unset, .unset, .unset, .unset, .unset] [(.int (3 : Int32)), (.int (p1 &&& (255 : Int32)))])) (fun zt zk => XS.iconst X0.here hx rfl (hb hby at_5) zk) ?_
  refine own_st (g1 := (mkF m 7 #[.val (.int p1), .val (.int p2), .val (.int p3), .val (.int p4), .val (.int p5), .unset, .unset, .unset, .unset, .unset, .unset, .unset, .unset, .unset, .unset] [(.int ((p1 &&& (255 : Int32)) - ((p1 &&& (255 : Int32)) / (3 : Int32)) * (3 : Int32)))])) (fun zt zk => XS.irem X0.here hx rfl (hb hby at_6) rfl (by decide) zk) ?_
  obtain ⟨i1, hi1, hl1⟩ : ∃ i : Nat, i < 3 ∧ ((p1 &&& (255 : Int32)) - ((p1 &&& (255 : Int32)) / (3 : Int32)) * (3 : Int32)) = Int32.ofNat i := own_l _
  rw [hl1]
  refine own_st (g1 := (mkF m 9 #[.val (.int p1), .val (.int p2), .val (.int p3), .val (.int p4), .val (.int p5), .val (.int (Int32.ofNat i1)), .unset, .unset, .unset, .unset, .unset, .unset, .unset, .unset, .unset] [])) (fun zt zk => XS.istore X0.here hx rfl (hb hby at_7) rfl (l' := #[.val (.int p1), .val (.int p2), .val (.int p3), .val (.int p4), .val (.int p5), .val (.int (Int32.ofNat i1)), .unset, .unset, .unset, .unset, .unset, .unset, .unset, .unset, .unset]) rfl zk) ?_
  refine own_st (g1 := (mkF m 10 #[.val (.int p1), .val (.int p2), .val (.int p3), .val (.int p4), .val (.int p5), .val (.int (Int32.ofNat i1)), .unset, .unset, .unset, .unset, .unset, .unset, .unset, .unset, .unset] [(.int p1)])) (fun zt zk => XS.iloadN X0.here hx rfl (hb hby at_9) rfl zk) ?_
  refine own_st (g1 := (mkF m 12 #[.val (.int p1), .val (.int p2), .val (.int p3), .val (.int p4), .val (.int p5), .val (.int (Int32.ofNat i1)), .unset, .unset, .unset, .unset, .unset, .unset, .unset, .unset, .unset] [(.int (8 : Int32)), (.int p1)])) (fun zt zk => XS.bipush X0.here hx rfl (hb hby at_10) zk) ?_
  refine own_st (g1 := (mkF m 13 #[.val (.int p1), .val (.int p2), .val (.int p3), .val (.int p4), .val (.int p5), .val (.int (Int32.ofNat i1)), .unset, .unset, .unset, .unset, .unset, .unset, .unset, .unset, .unset] [(.int ((p1.toUInt32 >>> ((8 : Int32) &&& 31).toUInt32).toInt32))])) (fun zt zk => XS.iushr X0.here hx rfl (hb hby at_12) rfl zk) ?_
  refine own_st (g1 := (mkF m 16 #[.val (.int p1), .val (.int p2), .val (.int p3), .val (.int p4), .val (.int p5), .val (.int (Int32.ofNat i1)), .unset, .unset, .unset, .unset, .unset, .unset, .unset, .unset, .unset] [(.int (255 : Int32)), (.int ((p1.toUInt32 >>> ((8 : Int32) &&& 31).toUInt32).toInt32))])) (fun zt zk => XS.sipush X0.here hx rfl (hb hby at_13) zk) ?_
  refine own_st (g1 := (mkF m 17 #[.val (.int p1), .val (.int p2), .val (.int p3), .val (.int p4), .val (.int p5), .val (.int (Int32.ofNat i1)), .unset, .unset, .unset, .unset, .unset, .unset, .unset, .unset, .unset] [(.int (((p1.toUInt32 >>> ((8 : Int32) &&& 31).toUInt32).toInt32) &&& (255 : Int32)))])) (fun zt zk => XS.iand X0.here hx rfl (hb hby at_16) rfl zk) ?_
  refine own_st (g1 := (mkF m 18 #[.val (.int p1), .val (.int p2), .val (.int p3), .val (.int p4), .val (.int p5), .val (.int (Int32.ofNat i1)), .unset, .unset, .unset, .unset, .unset, .unset, .unset, .unset, .unset] [(.int (3 : Int32)), (.int (((p1.toUInt32 >>> ((8 : Int32) &&& 31).toUInt32).toInt32) &&& (255 : Int32)))])) (fun zt zk => XS.iconst X0.here hx rfl (hb hby at_17) zk) ?_
  refine own_st (g1 := (mkF m 19 #[.val (.int p1), .val (.int p2), .val (.int p3), .val (.int p4), .val (.int p5), .val (.int (Int32.ofNat i1)), .unset, .unset, .unset, .unset, .unset, .unset, .unset, .unset, .unset] [(.int ((((p1.toUInt32 >>> ((8 : Int32) &&& 31).toUInt32).toInt32) &&& (255 : Int32)) - ((((p1.toUInt32 >>> ((8 : Int32) &&& 31).toUInt32).toInt32) &&& (255 : Int32)) / (3 : Int32)) * (3 : Int32)))])) (fun zt zk => XS.irem X0.here hx rfl (hb hby at_18) rfl (by decide) zk) ?_
  obtain ⟨i2, hi2, hl2⟩ : ∃ i : Nat, i < 3 ∧ ((((p1.toUInt32 >>> ((8 : Int32) &&& 31).toUInt32).toInt32) &&& (255 : Int32)) - ((((p1.toUInt32 >>> ((8 : Int32) &&& 31).toUInt32).toInt32) &&& (255 : Int32)) / (3 : Int32)) * (3 : Int32)) = Int32.ofNat i := own_l _
  rw [hl2]
  refine own_st (g1 := (mkF m 21 #[.val (.int p1), .val (.int p2), .val (.int p3), .val (.int p4), .val (.int p5), .val (.int (Int32.ofNat i1)), .val (.int (Int32.ofNat i2)), .unset, .unset, .unset, .unset, .unset, .unset, .unset, .unset] [])) (fun zt zk => XS.istore X0.here hx rfl (hb hby at_19) rfl (l' := #[.val (.int p1), .val (.int p2), .val (.int p3), .val (.int p4), .val (.int p5), .val (.int (Int32.ofNat i1)), .val (.int (Int32.ofNat i2)), .unset, .unset, .unset, .unset, .unset, .unset, .unset, .unset]) rfl zk) ?_
  refine own_st (g1 := (mkF m 22 #[.val (.int p1), .val (.int p2), .val (.int p3), .val (.int p4), .val (.int p5), .val (.int (Int32.ofNat i1)), .val (.int (Int32.ofNat i2)), .unset, .unset, .unset, .unset, .unset, .unset, .unset, .unset] [(.int p1)])) (fun zt zk => XS.iloadN X0.here hx rfl (hb hby at_21) rfl zk) ?_
  refine own_st (g1 := (mkF m 24 #[.val (.int p1), .val (.int p2), .val (.int p3), .val (.int p4), .val (.int p5), .val (.int (Int32.ofNat i1)), .val (.int (Int32.ofNat i2)), .unset, .unset, .unset, .unset, .unset, .unset, .unset, .unset] [(.int (16 : Int32)), (.int p1)])) (fun zt zk => XS.bipush X0.here hx rfl (hb hby at_22) zk) ?_
  refine own_st (g1 := (mkF m 25 #[.val (.int p1), .val (.int p2), .val (.int p3), .val (.int p4), .val (.int p5), .val (.int (Int32.ofNat i1)), .val (.int (Int32.ofNat i2)), .unset, .unset, .unset, .unset, .unset, .unset, .unset, .unset] [(.int ((p1.toUInt32 >>> ((16 : Int32) &&& 31).toUInt32).toInt32))])) (fun zt zk => XS.iushr X0.here hx rfl (hb hby at_24) rfl zk) ?_
  refine own_st (g1 := (mkF m 28 #[.val (.int p1), .val (.int p2), .val (.int p3), .val (.int p4), .val (.int p5), .val (.int (Int32.ofNat i1)), .val (.int (Int32.ofNat i2)), .unset, .unset, .unset, .unset, .unset, .unset, .unset, .unset] [(.int (255 : Int32)), (.int ((p1.toUInt32 >>> ((16 : Int32) &&& 31).toUInt32).toInt32))])) (fun zt zk => XS.sipush X0.here hx rfl (hb hby at_25) zk) ?_
  refine own_st (g1 := (mkF m 29 #[.val (.int p1), .val (.int p2), .val (.int p3), .val (.int p4), .val (.int p5), .val (.int (Int32.ofNat i1)), .val (.int (Int32.ofNat i2)), .unset, .unset, .unset, .unset, .unset, .unset, .unset, .unset] [(.int (((p1.toUInt32 >>> ((16 : Int32) &&& 31).toUInt32).toInt32) &&& (255 : Int32)))])) (fun zt zk => XS.iand X0.here hx rfl (hb hby at_28) rfl zk) ?_
  refine own_st (g1 := (mkF m 30 #[.val (.int p1), .val (.int p2), .val (.int p3), .val (.int p4), .val (.int p5), .val (.int (Int32.ofNat i1)), .val (.int (Int32.ofNat i2)), .unset, .unset, .unset, .unset, .unset, .unset, .unset, .unset] [(.int (3 : Int32)), (.int (((p1.toUInt32 >>> ((16 : Int32) &&& 31).toUInt32).toInt32) &&& (255 : Int32)))])) (fun zt zk => XS.iconst X0.here hx rfl (hb hby at_29) zk) ?_
  refine own_st (g1 := (mkF m 31 #[.val (.int p1), .val (.int p2), .val (.int p3), .val (.int p4), .val (.int p5), .val (.int (Int32.ofNat i1)), .val (.int (Int32.ofNat i2)), .unset, .unset, .unset, .unset, .unset, .unset, .unset, .unset] [(.int ((((p1.toUInt32 >>> ((16 : Int32) &&& 31).toUInt32).toInt32) &&& (255 : Int32)) - ((((p1.toUInt32 >>> ((16 : Int32) &&& 31).toUInt32).toInt32) &&& (255 : Int32)) / (3 : Int32)) * (3 : Int32)))])) (fun zt zk => XS.irem X0.here hx rfl (hb hby at_30) rfl (by decide) zk) ?_
  obtain ⟨i3, hi3, hl3⟩ : ∃ i : Nat, i < 3 ∧ ((((p1.toUInt32 >>> ((16 : Int32) &&& 31).toUInt32).toInt32) &&& (255 : Int32)) - ((((p1.toUInt32 >>> ((16 : Int32) &&& 31).toUInt32).toInt32) &&& (255 : Int32)) / (3 : Int32)) * (3 : Int32)) = Int32.ofNat i := own_l _
  rw [hl3]
  refine own_st (g1 := (mkF m 33 #[.val (.int p1), .val (.int p2), .val (.int p3), .val (.int p4), .val (.int p5), .val (.int (Int32.ofNat i1)), .val (.int (Int32.ofNat i2)), .val (.int (Int32.ofNat i3)), .unset, .unset, .unset, .unset, .unset, .unset, .unset] [])) (fun zt zk => XS.istore X0.here hx rfl (hb hby at_31) rfl (l' := #[.val (.int p1), .val (.int p2), .val (.int p3), .val (.int p4), .val (.int p5), .val (.int (Int32.ofNat i1)), .val (.int (Int32.ofNat i2)), .val (.int (Int32.ofNat i3)), .unset, .unset, .unset, .unset, .unset, .unset, .unset]) rfl zk) ?_
  refine own_st (g1 := (mkF m 34 #[.val (.int p1), .val (.int p2), .val (.int p3), .val (.int p4), .val (.int p5), .val (.int (Int32.ofNat i1)), .val (.int (Int32.ofNat i2)), .val (.int (Int32.ofNat i3)), .unset, .unset, .unset, .unset, .unset, .unset, .unset] [(.int p1)])) (fun zt zk => XS.iloadN X0.here hx rfl (hb hby at_33) rfl zk) ?_
  refine own_st (g1 := (mkF m 36 #[.val (.int p1), .val (.int p2), .val (.int p3), .val (.int p4), .val (.int p5), .val (.int (Int32.ofNat i1)), .val (.int (Int32.ofNat i2)), .val (.int (Int32.ofNat i3)), .unset, .unset, .unset, .unset, .unset, .unset, .unset] [(.int (24 : Int32)), (.int p1)])) (fun zt zk => XS.bipush X0.here hx rfl (hb hby at_34) zk) ?_
  refine own_st (g1 := (mkF m 37 #[.val (.int p1), .val (.int p2), .val (.int p3), .val (.int p4), .val (.int p5), .val (.int (Int32.ofNat i1)), .val (.int (Int32.ofNat i2)), .val (.int (Int32.ofNat i3)), .unset, .unset, .unset, .unset, .unset, .unset, .unset] [(.int ((p1.toUInt32 >>> ((24 : Int32) &&& 31).toUInt32).toInt32))])) (fun zt zk => XS.iushr X0.here hx rfl (hb hby at_36) rfl zk) ?_
  refine own_st (g1 := (mkF m 40 #[.val (.int p1), .val (.int p2), .val (.int p3), .val (.int p4), .val (.int p5), .val (.int (Int32.ofNat i1)), .val (.int (Int32.ofNat i2)), .val (.int (Int32.ofNat i3)), .unset, .unset, .unset, .unset, .unset, .unset, .unset] [(.int (255 : Int32)), (.int ((p1.toUInt32 >>> ((24 : Int32) &&& 31).toUInt32).toInt32))])) (fun zt zk => XS.sipush X0.here hx rfl (hb hby at_37) zk) ?_
  refine own_st (g1 := (mkF m 41 #[.val (.int p1), .val (.int p2), .val (.int p3), .val (.int p4), .val (.int p5), .val (.int (Int32.ofNat i1)), .val (.int (Int32.ofNat i2)), .val (.int (Int32.ofNat i3)), .unset, .unset, .unset, .unset, .unset, .unset, .unset] [(.int (((p1.toUInt32 >>> ((24 : Int32) &&& 31).toUInt32).toInt32) &&& (255 : Int32)))])) (fun zt zk => XS.iand X0.here hx rfl (hb hby at_40) rfl zk) ?_
  refine own_st (g1 := (mkF m 42 #[.val (.int p1), .val (.int p2), .val (.int p3), .val (.int p4), .val (.int p5), .val (.int (Int32.ofNat i1)), .val (.int (Int32.ofNat i2)), .val (.int (Int32.ofNat i3)), .unset, .unset, .unset, .unset, .unset, .unset, .unset] [(.int (3 : Int32)), (.int (((p1.toUInt32 >>> ((24 : Int32) &&& 31).toUInt32).toInt32) &&& (255 : Int32)))])) (fun zt zk => XS.iconst X0.here hx rfl (hb hby at_41) zk) ?_
  refine own_st (g1 := (mkF m 43 #[.val (.int p1), .val (.int p2), .val (.int p3), .val (.int p4), .val (.int p5), .val (.int (Int32.ofNat i1)), .val (.int (Int32.ofNat i2)), .val (.int (Int32.ofNat i3)), .unset, .unset, .unset, .unset, .unset, .unset, .unset] [(.int ((((p1.toUInt32 >>> ((24 : Int32) &&& 31).toUInt32).toInt32) &&& (255 : Int32)) - ((((p1.toUInt32 >>> ((24 : Int32) &&& 31).toUInt32).toInt32) &&& (255 : Int32)) / (3 : Int32)) * (3 : Int32)))])) (fun zt zk => XS.irem X0.here hx rfl (hb hby at_42) rfl (by decide) zk) ?_
  obtain ⟨i4, hi4, hl4⟩ : ∃ i : Nat, i < 3 ∧ ((((p1.toUInt32 >>> ((24 : Int32) &&& 31).toUInt32).toInt32) &&& (255 : Int32)) - ((((p1.toUInt32 >>> ((24 : Int32) &&& 31).toUInt32).toInt32) &&& (255 : Int32)) / (3 : Int32)) * (3 : Int32)) = Int32.ofNat i := own_l _
  rw [hl4]
  refine own_st (g1 := (mkF m 45 #[.val (.int p1), .val (.int p2), .val (.int p3), .val (.int p4), .val (.int p5), .val (.int (Int32.ofNat i1)), .val (.int (Int32.ofNat i2)), .val (.int (Int32.ofNat i3)), .val (.int (Int32.ofNat i4)), .unset, .unset, .unset, .unset, .unset, .unset] [])) (fun zt zk => XS.istore X0.here hx rfl (hb hby at_43) rfl (l' := #[.val (.int p1), .val (.int p2), .val (.int p3), .val (.int p4), .val (.int p5), .val (.int (Int32.ofNat i1)), .val (.int (Int32.ofNat i2)), .val (.int (Int32.ofNat i3)), .val (.int (Int32.ofNat i4)), .unset, .unset, .unset, .unset, .unset, .unset]) rfl zk) ?_
  refine own_st (g1 := (mkF m 46 #[.val (.int p1), .val (.int p2), .val (.int p3), .val (.int p4), .val (.int p5), .val (.int (Int32.ofNat i1)), .val (.int (Int32.ofNat i2)), .val (.int (Int32.ofNat i3)), .val (.int (Int32.ofNat i4)), .unset, .unset, .unset, .unset, .unset, .unset] [(.int p2)])) (fun zt zk => XS.iloadN X0.here hx rfl (hb hby at_45) rfl zk) ?_
  obtain ⟨_, _, ⟨T48, L48, k48, n48⟩, -, X48, ⟨Lc48, hQ48, l48, y48, z48⟩, st48⟩ := Jvm.LawKit.callS X0 hx (y := (⟨"com/example/rackweave/rackweave/core/ChangeMarksRestorePinLaw", "rank", "(I)I"⟩ : MethodName)) hown (mvT hZ (hw _ (List.mem_of_getElem? (i := 0) rfl))) (mvT hZ (hw _ (List.mem_of_getElem? (i := 1) rfl))) (mvT hZ (hw _ (List.mem_of_getElem? (i := 2) rfl))) (mvT hZ (hw _ (List.mem_of_getElem? (i := 3) rfl))) (by decide) (backOf (W := 0) (rm1 l Z a0 hw [] p2 h0 n0) hZ (hw _ (List.mem_of_getElem? (i := 3) rfl)) (hw _ (List.mem_of_getElem? (i := 2) rfl)) (by decide) (by decide)) (g := (mkF m 46 #[.val (.int p1), .val (.int p2), .val (.int p3), .val (.int p4), .val (.int p5), .val (.int (Int32.ofNat i1)), .val (.int (Int32.ofNat i2)), .val (.int (Int32.ofNat i3)), .val (.int (Int32.ofNat i4)), .unset, .unset, .unset, .unset, .unset, .unset] [(.int p2)])) rfl (by rw [hml]; rfl) (argsL := [(.int p2)]) (rest := []) (lenOf pd_2 rfl) rfl (by show 2 * 0 + _ ≤ _; exact Nat.le_of_eq rfl) (hb hby at_46) (fun _ _ => ⟨rfl, e0, (by decide : 0 + 0 ≤ _), (by decide : 0 + 0 ≤ _)⟩)
  dsimp only [Pt.U, Pt.locs, Pt.cells, Pt.slots] at X48 l48 y48 z48 st48 hQ48
  replace X48 := own_stand X48 l48 y48 z48
  clear l48 y48 z48
  obtain ⟨v1, rfl, N48, hh48, hv1⟩ := hQ48
  refine own_st (g1 := (mkF m 49 #[.val (.int p1), .val (.int p2), .val (.int p3), .val (.int p4), .val (.int p5), .val (.int (Int32.ofNat i1)), .val (.int (Int32.ofNat i2)), .val (.int (Int32.ofNat i3)), .val (.int (Int32.ofNat i4)), .unset, .unset, .unset, .unset, .unset, .unset] [(.int v1)])) (st48) ?_
  have eh48 : T48.heap = h0 := hh48
  refine own_st (g1 := (mkF m 51 #[.val (.int p1), .val (.int p2), .val (.int p3), .val (.int p4), .val (.int p5), .val (.int (Int32.ofNat i1)), .val (.int (Int32.ofNat i2)), .val (.int (Int32.ofNat i3)), .val (.int (Int32.ofNat i4)), .val (.int v1), .unset, .unset, .unset, .unset, .unset] [])) (fun zt zk => XS.istore X48.here hx rfl (hb hby at_49) rfl (l' := #[.val (.int p1), .val (.int p2), .val (.int p3), .val (.int p4), .val (.int p5), .val (.int (Int32.ofNat i1)), .val (.int (Int32.ofNat i2)), .val (.int (Int32.ofNat i3)), .val (.int (Int32.ofNat i4)), .val (.int v1), .unset, .unset, .unset, .unset, .unset]) rfl zk) ?_
  refine own_st (g1 := (mkF m 52 #[.val (.int p1), .val (.int p2), .val (.int p3), .val (.int p4), .val (.int p5), .val (.int (Int32.ofNat i1)), .val (.int (Int32.ofNat i2)), .val (.int (Int32.ofNat i3)), .val (.int (Int32.ofNat i4)), .val (.int v1), .unset, .unset, .unset, .unset, .unset] [(.int p3)])) (fun zt zk => XS.iloadN X48.here hx rfl (hb hby at_51) rfl zk) ?_
  obtain ⟨_, _, ⟨T49, L49, k49, n49⟩, -, X49, ⟨Lc49, hQ49, l49, y49, z49⟩, st49⟩ := Jvm.LawKit.callS X48 hx (y := (⟨"com/example/rackweave/rackweave/core/ChangeMarksRestorePinLaw", "rank", "(I)I"⟩ : MethodName)) hown (mvT hZ (hw _ (List.mem_of_getElem? (i := 0) rfl))) (mvT hZ (hw _ (List.mem_of_getElem? (i := 1) rfl))) (mvT hZ (hw _ (List.mem_of_getElem? (i := 2) rfl))) (mvT hZ (hw _ (List.mem_of_getElem? (i := 3) rfl))) (by decide) (backOf (W := 0) (rm1 l Z a0 hw [] p3 h0 n0) hZ (hw _ (List.mem_of_getElem? (i := 3) rfl)) (hw _ (List.mem_of_getElem? (i := 2) rfl)) (by decide) (by decide)) (g := (mkF m 52 #[.val (.int p1), .val (.int p2), .val (.int p3), .val (.int p4), .val (.int p5), .val (.int (Int32.ofNat i1)), .val (.int (Int32.ofNat i2)), .val (.int (Int32.ofNat i3)), .val (.int (Int32.ofNat i4)), .val (.int v1), .unset, .unset, .unset, .unset, .unset] [(.int p3)])) rfl (by rw [hml]; rfl) (argsL := [(.int p3)]) (rest := []) (lenOf pd_2 rfl) rfl (by show 2 * 0 + _ ≤ _; exact Nat.le_of_eq rfl) (hb hby at_52) (fun _ _ => ⟨rfl, eh48, (by decide : 0 + 0 + 0 ≤ _), (by decide : 0 + 0 + 0 ≤ _)⟩)
  dsimp only [Pt.U, Pt.locs, Pt.cells, Pt.slots] at X49 l49 y49 z49 st49 hQ49
  replace X49 := own_stand X49 l49 y49 z49
  clear l49 y49 z49
  obtain ⟨v2, rfl, N49, hh49, hv2⟩ := hQ49
  refine own_st (g1 := (mkF m 55 #[.val (.int p1), .val (.int p2), .val (.int p3), .val (.int p4), .val (.int p5), .val (.int (Int32.ofNat i1)), .val (.int (Int32.ofNat i2)), .val (.int (Int32.ofNat i3)), .val (.int (Int32.ofNat i4)), .val (.int v1), .unset, .unset, .unset, .unset, .unset] [(.int v2)])) (st49) ?_
  have eh49 : T49.heap = h0 := hh49
  refine own_st (g1 := (mkF m 57 #[.val (.int p1), .val (.int p2), .val (.int p3), .val (.int p4), .val (.int p5), .val (.int (Int32.ofNat i1)), .val (.int (Int32.ofNat i2)), .val (.int (Int32.ofNat i3)), .val (.int (Int32.ofNat i4)), .val (.int v1), .val (.int v2), .unset, .unset, .unset, .unset] [])) (fun zt zk => XS.istore X49.here hx rfl (hb hby at_55) rfl (l' := #[.val (.int p1), .val (.int p2), .val (.int p3), .val (.int p4), .val (.int p5), .val (.int (Int32.ofNat i1)), .val (.int (Int32.ofNat i2)), .val (.int (Int32.ofNat i3)), .val (.int (Int32.ofNat i4)), .val (.int v1), .val (.int v2), .unset, .unset, .unset, .unset]) rfl zk) ?_
  refine own_st (g1 := (mkF m 58 #[.val (.int p1), .val (.int p2), .val (.int p3), .val (.int p4), .val (.int p5), .val (.int (Int32.ofNat i1)), .val (.int (Int32.ofNat i2)), .val (.int (Int32.ofNat i3)), .val (.int (Int32.ofNat i4)), .val (.int v1), .val (.int v2), .unset, .unset, .unset, .unset] [(.int p4)])) (fun zt zk => XS.iloadN X49.here hx rfl (hb hby at_57) rfl zk) ?_
  obtain ⟨_, _, ⟨T50, L50, k50, n50⟩, -, X50, ⟨Lc50, hQ50, l50, y50, z50⟩, st50⟩ := Jvm.LawKit.callS X49 hx (y := (⟨"com/example/rackweave/rackweave/core/ChangeMarksRestorePinLaw", "rank", "(I)I"⟩ : MethodName)) hown (mvT hZ (hw _ (List.mem_of_getElem? (i := 0) rfl))) (mvT hZ (hw _ (List.mem_of_getElem? (i := 1) rfl))) (mvT hZ (hw _ (List.mem_of_getElem? (i := 2) rfl))) (mvT hZ (hw _ (List.mem_of_getElem? (i := 3) rfl))) (by decide) (backOf (W := 0) (rm1 l Z a0 hw [] p4 h0 n0) hZ (hw _ (List.mem_of_getElem? (i := 3) rfl)) (hw _ (List.mem_of_getElem? (i := 2) rfl)) (by decide) (by decide)) (g := (mkF m 58 #[.val (.int p1), .val (.int p2), .val (.int p3), .val (.int p4), .val (.int p5), .val (.int (Int32.ofNat i1)), .val (.int (Int32.ofNat i2)), .val (.int (Int32.ofNat i3)), .val (.int (Int32.ofNat i4)), .val (.int v1), .val (.int v2), .unset, .unset, .unset, .unset] [(.int p4)])) rfl (by rw [hml]; rfl) (argsL := [(.int p4)]) (rest := []) (lenOf pd_2 rfl) rfl (by show 2 * 0 + _ ≤ _; exact Nat.le_of_eq rfl) (hb hby at_58) (fun _ _ => ⟨rfl, eh49, (by decide : 0 + 0 + 0 + 0 ≤ _), (by decide : 0 + 0 + 0 + 0 ≤ _)⟩)
  dsimp only [Pt.U, Pt.locs, Pt.cells, Pt.slots] at X50 l50 y50 z50 st50 hQ50
  replace X50 := own_stand X50 l50 y50 z50
  clear l50 y50 z50
  obtain ⟨v3, rfl, N50, hh50, hv3⟩ := hQ50
  refine own_st (g1 := (mkF m 61 #[.val (.int p1), .val (.int p2), .val (.int p3), .val (.int p4), .val (.int p5), .val (.int (Int32.ofNat i1)), .val (.int (Int32.ofNat i2)), .val (.int (Int32.ofNat i3)), .val (.int (Int32.ofNat i4)), .val (.int v1), .val (.int v2), .unset, .unset, .unset, .unset] [(.int v3)])) (st50) ?_
  have eh50 : T50.heap = h0 := hh50
  refine own_st (g1 := (mkF m 63 #[.val (.int p1), .val (.int p2), .val (.int p3), .val (.int p4), .val (.int p5), .val (.int (Int32.ofNat i1)), .val (.int (Int32.ofNat i2)), .val (.int (Int32.ofNat i3)), .val (.int (Int32.ofNat i4)), .val (.int v1), .val (.int v2), .val (.int v3), .unset, .unset, .unset] [])) (fun zt zk => XS.istore X50.here hx rfl (hb hby at_61) rfl (l' := #[.val (.int p1), .val (.int p2), .val (.int p3), .val (.int p4), .val (.int p5), .val (.int (Int32.ofNat i1)), .val (.int (Int32.ofNat i2)), .val (.int (Int32.ofNat i3)), .val (.int (Int32.ofNat i4)), .val (.int v1), .val (.int v2), .val (.int v3), .unset, .unset, .unset]) rfl zk) ?_
  refine own_st (g1 := (mkF m 65 #[.val (.int p1), .val (.int p2), .val (.int p3), .val (.int p4), .val (.int p5), .val (.int (Int32.ofNat i1)), .val (.int (Int32.ofNat i2)), .val (.int (Int32.ofNat i3)), .val (.int (Int32.ofNat i4)), .val (.int v1), .val (.int v2), .val (.int v3), .unset, .unset, .unset] [(.int p5)])) (fun zt zk => XS.iload X50.here hx rfl (hb hby at_63) rfl zk) ?_
  obtain ⟨_, _, ⟨T51, L51, k51, n51⟩, -, X51, ⟨Lc51, hQ51, l51, y51, z51⟩, st51⟩ := Jvm.LawKit.callS X50 hx (y := (⟨"com/example/rackweave/rackweave/core/ChangeMarksRestorePinLaw", "rank", "(I)I"⟩ : MethodName)) hown (mvT hZ (hw _ (List.mem_of_getElem? (i := 0) rfl))) (mvT hZ (hw _ (List.mem_of_getElem? (i := 1) rfl))) (mvT hZ (hw _ (List.mem_of_getElem? (i := 2) rfl))) (mvT hZ (hw _ (List.mem_of_getElem? (i := 3) rfl))) (by decide) (backOf (W := 0) (rm1 l Z a0 hw [] p5 h0 n0) hZ (hw _ (List.mem_of_getElem? (i := 3) rfl)) (hw _ (List.mem_of_getElem? (i := 2) rfl)) (by decide) (by decide)) (g := (mkF m 65 #[.val (.int p1), .val (.int p2), .val (.int p3), .val (.int p4), .val (.int p5), .val (.int (Int32.ofNat i1)), .val (.int (Int32.ofNat i2)), .val (.int (Int32.ofNat i3)), .val (.int (Int32.ofNat i4)), .val (.int v1), .val (.int v2), .val (.int v3), .unset, .unset, .unset] [(.int p5)])) rfl (by rw [hml]; rfl) (argsL := [(.int p5)]) (rest := []) (lenOf pd_2 rfl) rfl (by show 2 * 0 + _ ≤ _; exact Nat.le_of_eq rfl) (hb hby at_65) (fun _ _ => ⟨rfl, eh50, (by decide : 0 + 0 + 0 + 0 + 0 ≤ _), (by decide : 0 + 0 + 0 + 0 + 0 ≤ _)⟩)
  dsimp only [Pt.U, Pt.locs, Pt.cells, Pt.slots] at X51 l51 y51 z51 st51 hQ51
  replace X51 := own_stand X51 l51 y51 z51
  clear l51 y51 z51
  obtain ⟨v4, rfl, N51, hh51, hv4⟩ := hQ51
  refine own_st (g1 := (mkF m 68 #[.val (.int p1), .val (.int p2), .val (.int p3), .val (.int p4), .val (.int p5), .val (.int (Int32.ofNat i1)), .val (.int (Int32.ofNat i2)), .val (.int (Int32.ofNat i3)), .val (.int (Int32.ofNat i4)), .val (.int v1), .val (.int v2), .val (.int v3), .unset, .unset, .unset] [(.int v4)])) (st51) ?_
  have eh51 : T51.heap = h0 := hh51
  have M1 := (Fr.app (Fr.app (Fr.app (Fr.app (Fr.nil n0) N48) N49) N50) N51)
  refine own_st (g1 := (mkF m 70 #[.val (.int p1), .val (.int p2), .val (.int p3), .val (.int p4), .val (.int p5), .val (.int (Int32.ofNat i1)), .val (.int (Int32.ofNat i2)), .val (.int (Int32.ofNat i3)), .val (.int (Int32.ofNat i4)), .val (.int v1), .val (.int v2), .val (.int v3), .val (.int v4), .unset, .unset] [])) (fun zt zk => XS.istore X51.here hx rfl (hb hby at_68) rfl (l' := #[.val (.int p1), .val (.int p2), .val (.int p3), .val (.int p4), .val (.int p5), .val (.int (Int32.ofNat i1)), .val (.int (Int32.ofNat i2)), .val (.int (Int32.ofNat i3)), .val (.int (Int32.ofNat i4)), .val (.int v1), .val (.int v2), .val (.int v3), .val (.int v4), .unset, .unset]) rfl zk) ?_
  refine own_st (g1 := (mkF m 71 #[.val (.int p1), .val (.int p2), .val (.int p3), .val (.int p4), .val (.int p5), .val (.int (Int32.ofNat i1)), .val (.int (Int32.ofNat i2)), .val (.int (Int32.ofNat i3)), .val (.int (Int32.ofNat i4)), .val (.int v1), .val (.int v2), .val (.int v3), .val (.int v4), .unset, .unset] [(.int (3 : Int32))])) (fun zt zk => XS.iconst X51.here hx rfl (hb hby at_70) zk) ?_
  obtain ⟨T52, h52, k52, X52, e52, E52, A52, st52⟩ := newP X51 hx hZ (hw _ (List.mem_of_getElem? (i := 5) rfl)) eh51 (g := (mkF m 71 #[.val (.int p1), .val (.int p2), .val (.int p3), .val (.int p4), .val (.int p5), .val (.int (Int32.ofNat i1)), .val (.int (Int32.ofNat i2)), .val (.int (Int32.ofNat i3)), .val (.int (Int32.ofNat i4)), .val (.int v1), .val (.int v2), .val (.int v3), .val (.int v4), .unset, .unset] [(.int (3 : Int32))])) rfl (hb hby at_71) rfl (by decide) (cap := 3) (by decide) (by decide) (by decide) (by decide)
  obtain ⟨b52, g52⟩ : ∃ z, z = h0.size := ⟨_, rfl⟩
  rw [← g52] at A52 st52
  refine own_st (g1 := (mkF m 73 #[.val (.int p1), .val (.int p2), .val (.int p3), .val (.int p4), .val (.int p5), .val (.int (Int32.ofNat i1)), .val (.int (Int32.ofNat i2)), .val (.int (Int32.ofNat i3)), .val (.int (Int32.ofNat i4)), .val (.int v1), .val (.int v2), .val (.int v3), .val (.int v4), .unset, .unset] [(.ref b52)])) (st52) ?_
  have Za := Nat.le_trans Z0 E52.1
  have gk : n0 ≤ b52 := by omega
  have U0 : VA Z h52 b52 .int 3 (fun _ => .int (0 : Int32)) := VA.new A52 rfl
  refine own_st (g1 := (mkF m 74 #[.val (.int p1), .val (.int p2), .val (.int p3), .val (.int p4), .val (.int p5), .val (.int (Int32.ofNat i1)), .val (.int (Int32.ofNat i2)), .val (.int (Int32.ofNat i3)), .val (.int (Int32.ofNat i4)), .val (.int v1), .val (.int v2), .val (.int v3), .val (.int v4), .unset, .unset] [(.ref b52), (.ref b52)])) (fun zt zk => XS.dup X52.here hx rfl (hb hby at_73) rfl rfl zk) ?_
  refine own_st (g1 := (mkF m 75 #[.val (.int p1), .val (.int p2), .val (.int p3), .val (.int p4), .val (.int p5), .val (.int (Int32.ofNat i1)), .val (.int (Int32.ofNat i2)), .val (.int (Int32.ofNat i3)), .val (.int (Int32.ofNat i4)), .val (.int v1), .val (.int v2), .val (.int v3), .val (.int v4), .unset, .unset] [(.int (0 : Int32)), (.ref b52), (.ref b52)])) (fun zt zk => XS.iconst X52.here hx rfl (hb hby at_74) zk) ?_
  refine own_st (g1 := (mkF m 77 #[.val (.int p1), .val (.int p2), .val (.int p3), .val (.int p4), .val (.int p5), .val (.int (Int32.ofNat i1)), .val (.int (Int32.ofNat i2)), .val (.int (Int32.ofNat i3)), .val (.int (Int32.ofNat i4)), .val (.int v1), .val (.int v2), .val (.int v3), .val (.int v4), .unset, .unset] [(.int (2147483647 : Int32)), (.int (0 : Int32)), (.ref b52), (.ref b52)])) (X52.ldcInt hx hown (mvT hZ (hw _ (List.mem_of_getElem? (i := 4) rfl))) (g := (mkF m 75 #[.val (.int p1), .val (.int p2), .val (.int p3), .val (.int p4), .val (.int p5), .val (.int (Int32.ofNat i1)), .val (.int (Int32.ofNat i2)), .val (.int (Int32.ofNat i3)), .val (.int (Int32.ofNat i4)), .val (.int v1), .val (.int v2), .val (.int v3), .val (.int v4), .unset, .unset] [(.int (0 : Int32)), (.ref b52), (.ref b52)])) rfl (hb hby at_75)) ?_
  obtain ⟨T53, h53, X53, e53, W53, st53⟩ := own_ist X52 hx hZ e52 U0 (j := 0) rfl (by decide) (by decide) (g := (mkF m 77 #[.val (.int p1), .val (.int p2), .val (.int p3), .val (.int p4), .val (.int p5), .val (.int (Int32.ofNat i1)), .val (.int (Int32.ofNat i2)), .val (.int (Int32.ofNat i3)), .val (.int (Int32.ofNat i4)), .val (.int v1), .val (.int v2), .val (.int v3), .val (.int v4), .unset, .unset] [(.int (2147483647 : Int32)), (.int (0 : Int32)), (.ref b52), (.ref b52)])) rfl rfl (hb hby at_77)
  refine own_st (g1 := (mkF m 78 #[.val (.int p1), .val (.int p2), .val (.int p3), .val (.int p4), .val (.int p5), .val (.int (Int32.ofNat i1)), .val (.int (Int32.ofNat i2)), .val (.int (Int32.ofNat i3)), .val (.int (Int32.ofNat i4)), .val (.int v1), .val (.int v2), .val (.int v3), .val (.int v4), .unset, .unset] [(.ref b52)])) (st53) ?_
  have U1 := U0.setI W53
  have R1 := Fr.snoc X53 M1 gk
  have Zr1 : n0 ≤ h53.size := by rw [Wr.size W53]; exact Za
  refine own_st (g1 := (mkF m 79 #[.val (.int p1), .val (.int p2), .val (.int p3), .val (.int p4), .val (.int p5), .val (.int (Int32.ofNat i1)), .val (.int (Int32.ofNat i2)), .val (.int (Int32.ofNat i3)), .val (.int (Int32.ofNat i4)), .val (.int v1), .val (.int v2), .val (.int v3), .val (.int v4), .unset, .unset] [(.ref b52), (.ref b52)])) (fun zt zk => XS.dup X53.here hx rfl (hb hby at_78) rfl rfl zk) ?_
  refine own_st (g1 := (mkF m 80 #[.val (.int p1), .val (.int p2), .val (.int p3), .val (.int p4), .val (.int p5), .val (.int (Int32.ofNat i1)), .val (.int (Int32.ofNat i2)), .val (.int (Int32.ofNat i3)), .val (.int (Int32.ofNat i4)), .val (.int v1), .val (.int v2), .val (.int v3), .val (.int v4), .unset, .unset] [(.int (1 : Int32)), (.ref b52), (.ref b52)])) (fun zt zk => XS.iconst X53.here hx rfl (hb hby at_79) zk) ?_
  refine own_st (g1 := (mkF m 82 #[.val (.int p1), .val (.int p2), .val (.int p3), .val (.int p4), .val (.int p5), .val (.int (Int32.ofNat i1)), .val (.int (Int32.ofNat i2)), .val (.int (Int32.ofNat i3)), .val (.int (Int32.ofNat i4)), .val (.int v1), .val (.int v2), .val (.int v3), .val (.int v4), .unset, .unset] [(.int (2147483647 : Int32)), (.int (1 : Int32)), (.ref b52), (.ref b52)])) (X53.ldcInt hx hown (mvT hZ (hw _ (List.mem_of_getElem? (i := 4) rfl))) (g := (mkF m 80 #[.val (.int p1), .val (.int p2), .val (.int p3), .val (.int p4), .val (.int p5), .val (.int (Int32.ofNat i1)), .val (.int (Int32.ofNat i2)), .val (.int (Int32.ofNat i3)), .val (.int (Int32.ofNat i4)), .val (.int v1), .val (.int v2), .val (.int v3), .val (.int v4), .unset, .unset] [(.int (1 : Int32)), (.ref b52), (.ref b52)])) rfl (hb hby at_80)) ?_
  obtain ⟨T54, h54, X54, e54, W54, st54⟩ := own_ist X53 hx hZ e53 U1 (j := 1) rfl (by decide) (by decide) (g := (mkF m 82 #[.val (.int p1), .val (.int p2), .val (.int p3), .val (.int p4), .val (.int p5), .val (.int (Int32.ofNat i1)), .val (.int (Int32.ofNat i2)), .val (.int (Int32.ofNat i3)), .val (.int (Int32.ofNat i4)), .val (.int v1), .val (.int v2), .val (.int v3), .val (.int v4), .unset, .unset] [(.int (2147483647 : Int32)), (.int (1 : Int32)), (.ref b52), (.ref b52)])) rfl rfl (hb hby at_82)
  refine own_st (g1 := (mkF m 83 #[.val (.int p1), .val (.int p2), .val (.int p3), .val (.int p4), .val (.int p5), .val (.int (Int32.ofNat i1)), .val (.int (Int32.ofNat i2)), .val (.int (Int32.ofNat i3)), .val (.int (Int32.ofNat i4)), .val (.int v1), .val (.int v2), .val (.int v3), .val (.int v4), .unset, .unset] [(.ref b52)])) (st54) ?_
  have U2 := U1.setI W54
  have R2 := Fr.snoc X54 R1 gk
  have Zr2 : n0 ≤ h54.size := by rw [Wr.size W54]; exact Zr1
  refine own_st (g1 := (mkF m 84 #[.val (.int p1), .val (.int p2), .val (.int p3), .val (.int p4), .val (.int p5), .val (.int (Int32.ofNat i1)), .val (.int (Int32.ofNat i2)), .val (.int (Int32.ofNat i3)), .val (.int (Int32.ofNat i4)), .val (.int v1), .val (.int v2), .val (.int v3), .val (.int v4), .unset, .unset] [(.ref b52), (.ref b52)])) (fun zt zk => XS.dup X54.here hx rfl (hb hby at_83) rfl rfl zk) ?_
  refine own_st (g1 := (mkF m 85 #[.val (.int p1), .val (.int p2), .val (.int p3), .val (.int p4), .val (.int p5), .val (.int (Int32.ofNat i1)), .val (.int (Int32.ofNat i2)), .val (.int (Int32.ofNat i3)), .val (.int (Int32.ofNat i4)), .val (.int v1), .val (.int v2), .val (.int v3), .val (.int v4), .unset, .unset] [(.int (2 : Int32)), (.ref b52), (.ref b52)])) (fun zt zk => XS.iconst X54.here hx rfl (hb hby at_84) zk) ?_
  refine own_st (g1 := (mkF m 87 #[.val (.int p1), .val (.int p2), .val (.int p3), .val (.int p4), .val (.int p5), .val (.int (Int32.ofNat i1)), .val (.int (Int32.ofNat i2)), .val (.int (Int32.ofNat i3)), .val (.int (Int32.ofNat i4)), .val (.int v1), .val (.int v2), .val (.int v3), .val (.int v4), .unset, .unset] [(.int (2147483647 : Int32)), (.int (2 : Int32)), (.ref b52), (.ref b52)])) (X54.ldcInt hx hown (mvT hZ (hw _ (List.mem_of_getElem? (i := 4) rfl))) (g := (mkF m 85 #[.val (.int p1), .val (.int p2), .val (.int p3), .val (.int p4), .val (.int p5), .val (.int (Int32.ofNat i1)), .val (.int (Int32.ofNat i2)), .val (.int (Int32.ofNat i3)), .val (.int (Int32.ofNat i4)), .val (.int v1), .val (.int v2), .val (.int v3), .val (.int v4), .unset, .unset] [(.int (2 : Int32)), (.ref b52), (.ref b52)])) rfl (hb hby at_85)) ?_
  obtain ⟨T55, h55, X55, e55, W55, st55⟩ := own_ist X54 hx hZ e54 U2 (j := 2) rfl (by decide) (by decide) (g := (mkF m 87 #[.val (.int p1), .val (.int p2), .val (.int p3), .val (.int p4), .val (.int p5), .val (.int (Int32.ofNat i1)), .val (.int (Int32.ofNat i2)), .val (.int (Int32.ofNat i3)), .val (.int (Int32.ofNat i4)), .val (.int v1), .val (.int v2), .val (.int v3), .val (.int v4), .unset, .unset] [(.int (2147483647 : Int32)), (.int (2 : Int32)), (.ref b52), (.ref b52)])) rfl rfl (hb hby at_87)
  refine own_st (g1 := (mkF m 88 #[.val (.int p1), .val (.int p2), .val (.int p3), .val (.int p4), .val (.int p5), .val (.int (Int32.ofNat i1)), .val (.int (Int32.ofNat i2)), .val (.int (Int32.ofNat i3)), .val (.int (Int32.ofNat i4)), .val (.int v1), .val (.int v2), .val (.int v3), .val (.int v4), .unset, .unset] [(.ref b52)])) (st55) ?_
  have U3 := U2.setI W55
  have R3 := Fr.snoc X55 R2 gk
  have Zr3 : n0 ≤ h55.size := by rw [Wr.size W55]; exact Zr2
  obtain ⟨e0f, he0⟩ : ∃ f : Nat → Int32, f = (upd (upd (upd (fun _ => (0 : Int32)) 0 (2147483647 : Int32)) 1 (2147483647 : Int32)) 2 (2147483647 : Int32)) := ⟨_, rfl⟩
  have U3e : VA Z h55 b52 .int 3 (fun j => .int (e0f j)) := by rw [he0]; exact U3
  refine own_st (g1 := (mkF m 90 #[.val (.int p1), .val (.int p2), .val (.int p3), .val (.int p4), .val (.int p5), .val (.int (Int32.ofNat i1)), .val (.int (Int32.ofNat i2)), .val (.int (Int32.ofNat i3)), .val (.int (Int32.ofNat i4)), .val (.int v1), .val (.int v2), .val (.int v3), .val (.int v4), .val (.ref b52), .unset] [])) (fun zt zk => XS.astore X55.here hx rfl (hb hby at_88) rfl rfl (l' := #[.val (.int p1), .val (.int p2), .val (.int p3), .val (.int p4), .val (.int p5), .val (.int (Int32.ofNat i1)), .val (.int (Int32.ofNat i2)), .val (.int (Int32.ofNat i3)), .val (.int (Int32.ofNat i4)), .val (.int v1), .val (.int v2), .val (.int v3), .val (.int v4), .val (.ref b52), .unset]) rfl zk) ?_
  refine own_st (g1 := (mkF m 92 #[.val (.int p1), .val (.int p2), .val (.int p3), .val (.int p4), .val (.int p5), .val (.int (Int32.ofNat i1)), .val (.int (Int32.ofNat i2)), .val (.int (Int32.ofNat i3)), .val (.int (Int32.ofNat i4)), .val (.int v1), .val (.int v2), .val (.int v3), .val (.int v4), .val (.ref b52), .unset] [(.ref b52)])) (fun zt zk => XS.aload X55.here hx rfl (hb hby at_90) rfl rfl zk) ?_
  refine own_st (g1 := (mkF m 94 #[.val (.int p1), .val (.int p2), .val (.int p3), .val (.int p4), .val (.int p5), .val (.int (Int32.ofNat i1)), .val (.int (Int32.ofNat i2)), .val (.int (Int32.ofNat i3)), .val (.int (Int32.ofNat i4)), .val (.int v1), .val (.int v2), .val (.int v3), .val (.int v4), .val (.ref b52), .unset] [(.int (Int32.ofNat i1)), (.ref b52)])) (fun zt zk => XS.iload X55.here hx rfl (hb hby at_92) rfl zk) ?_
  refine own_st (g1 := (mkF m 96 #[.val (.int p1), .val (.int p2), .val (.int p3), .val (.int p4), .val (.int p5), .val (.int (Int32.ofNat i1)), .val (.int (Int32.ofNat i2)), .val (.int (Int32.ofNat i3)), .val (.int (Int32.ofNat i4)), .val (.int v1), .val (.int v2), .val (.int v3), .val (.int v4), .val (.ref b52), .unset] [(.ref b52), (.int (Int32.ofNat i1)), (.ref b52)])) (fun zt zk => XS.aload X55.here hx rfl (hb hby at_94) rfl rfl zk) ?_
  refine own_st (g1 := (mkF m 98 #[.val (.int p1), .val (.int p2), .val (.int p3), .val (.int p4), .val (.int p5), .val (.int (Int32.ofNat i1)), .val (.int (Int32.ofNat i2)), .val (.int (Int32.ofNat i3)), .val (.int (Int32.ofNat i4)), .val (.int v1), .val (.int v2), .val (.int v3), .val (.int v4), .val (.ref b52), .unset] [(.int (Int32.ofNat i1)), (.ref b52), (.int (Int32.ofNat i1)), (.ref b52)])) (fun zt zk => XS.iload X55.here hx rfl (hb hby at_96) rfl zk) ?_
  refine own_st (g1 := (mkF m 99 #[.val (.int p1), .val (.int p2), .val (.int p3), .val (.int p4), .val (.int p5), .val (.int (Int32.ofNat i1)), .val (.int (Int32.ofNat i2)), .val (.int (Int32.ofNat i3)), .val (.int (Int32.ofNat i4)), .val (.int v1), .val (.int v2), .val (.int v3), .val (.int v4), .val (.ref b52), .unset] [(.int (e0f i1)), (.int (Int32.ofNat i1)), (.ref b52)])) (own_ild X55 hx hZ e55 U3e (j := i1) (v := (.int (e0f i1))) rfl hi1 (by decide) rfl (g := (mkF m 98 #[.val (.int p1), .val (.int p2), .val (.int p3), .val (.int p4), .val (.int p5), .val (.int (Int32.ofNat i1)), .val (.int (Int32.ofNat i2)), .val (.int (Int32.ofNat i3)), .val (.int (Int32.ofNat i4)), .val (.int v1), .val (.int v2), .val (.int v3), .val (.int v4), .val (.ref b52), .unset] [(.int (Int32.ofNat i1)), (.ref b52), (.int (Int32.ofNat i1)), (.ref b52)])) rfl rfl (hb hby at_98)) ?_
  refine own_st (g1 := (mkF m 101 #[.val (.int p1), .val (.int p2), .val (.int p3), .val (.int p4), .val (.int p5), .val (.int (Int32.ofNat i1)), .val (.int (Int32.ofNat i2)), .val (.int (Int32.ofNat i3)), .val (.int (Int32.ofNat i4)), .val (.int v1), .val (.int v2), .val (.int v3), .val (.int v4), .val (.ref b52), .unset] [(.int v1), (.int (e0f i1)), (.int (Int32.ofNat i1)), (.ref b52)])) (fun zt zk => XS.iload X55.here hx rfl (hb hby at_99) rfl zk) ?_
  obtain ⟨_, _, ⟨T56, L56, k56, n56⟩, -, X56, ⟨Lc56, hQ56, l56, y56, z56⟩, st56⟩ := Jvm.LawKit.callS X55 hx (y := (⟨"java/lang/Math", "min", "(II)I"⟩ : MethodName)) hown (mvT hZ (hw _ (List.mem_of_getElem? (i := 6) rfl))) (mvT hZ (hw _ (List.mem_of_getElem? (i := 7) rfl))) (mvT hZ (hw _ (List.mem_of_getElem? (i := 8) rfl))) (mvT hZ (hw _ (List.mem_of_getElem? (i := 9) rfl))) (by decide) (backOf (W := 2) (rm2 l Z a0 hw [] (e0f i1) v1 h55 n0) hZ (hw _ (List.mem_of_getElem? (i := 9) rfl)) (hw _ (List.mem_of_getElem? (i := 8) rfl)) (by decide) (by decide)) (g := (mkF m 101 #[.val (.int p1), .val (.int p2), .val (.int p3), .val (.int p4), .val (.int p5), .val (.int (Int32.ofNat i1)), .val (.int (Int32.ofNat i2)), .val (.int (Int32.ofNat i3)), .val (.int (Int32.ofNat i4)), .val (.int v1), .val (.int v2), .val (.int v3), .val (.int v4), .val (.ref b52), .unset] [(.int v1), (.int (e0f i1)), (.int (Int32.ofNat i1)), (.ref b52)])) rfl (by rw [hml]; rfl) (argsL := [(.int (e0f i1)), (.int v1)]) (rest := [(.int (Int32.ofNat i1)), (.ref b52)]) (lenOf pd_1 rfl) rfl (by show 2 * 0 + _ ≤ _; exact Nat.le_of_eq rfl) (hb hby at_101) (fun _ _ => ⟨rfl, e55, (by decide : 0 + 0 + 0 + 0 + 0 + 1 + 0 ≤ _), (by decide : 0 + 0 + 0 + 0 + 0 + 3 + 0 ≤ _)⟩)
  dsimp only [Pt.U, Pt.locs, Pt.cells, Pt.slots] at X56 l56 y56 z56 st56 hQ56
  replace X56 := own_stand X56 l56 y56 z56
  clear l56 y56 z56
  obtain ⟨rfl, N56, hh56⟩ := hQ56
  refine own_st (g1 := (mkF m 104 #[.val (.int p1), .val (.int p2), .val (.int p3), .val (.int p4), .val (.int p5), .val (.int (Int32.ofNat i1)), .val (.int (Int32.ofNat i2)), .val (.int (Int32.ofNat i3)), .val (.int (Int32.ofNat i4)), .val (.int v1), .val (.int v2), .val (.int v3), .val (.int v4), .val (.ref b52), .unset] [(.int (own_min (e0f i1) v1)), (.int (Int32.ofNat i1)), (.ref b52)])) (st56) ?_
  have eh56 : T56.heap = h55 := hh56
  obtain ⟨T57, h57, X57, e57, W57, st57⟩ := own_ist X56 hx hZ eh56 U3e (j := i1) rfl hi1 (by decide) (g := (mkF m 104 #[.val (.int p1), .val (.int p2), .val (.int p3), .val (.int p4), .val (.int p5), .val (.int (Int32.ofNat i1)), .val (.int (Int32.ofNat i2)), .val (.int (Int32.ofNat i3)), .val (.int (Int32.ofNat i4)), .val (.int v1), .val (.int v2), .val (.int v3), .val (.int v4), .val (.ref b52), .unset] [(.int (own_min (e0f i1) v1)), (.int (Int32.ofNat i1)), (.ref b52)])) rfl rfl (hb hby at_104)
  refine own_st (g1 := (mkF m 105 #[.val (.int p1), .val (.int p2), .val (.int p3), .val (.int p4), .val (.int p5), .val (.int (Int32.ofNat i1)), .val (.int (Int32.ofNat i2)), .val (.int (Int32.ofNat i3)), .val (.int (Int32.ofNat i4)), .val (.int v1), .val (.int v2), .val (.int v3), .val (.int v4), .val (.ref b52), .unset] [])) (st57) ?_
  have Y0 := U3e.setI W57
  have S0 := Fr.snoc X57 (Fr.app R3 N56) gk
  have Zt0 : n0 ≤ h57.size := by rw [Wr.size W57]; exact Zr3
  obtain ⟨e1f, he1⟩ : ∃ g : Nat → Int32, g = upd e0f i1 (own_min (e0f i1) v1) := ⟨_, rfl⟩
  rw [← he1] at Y0
  refine own_st (g1 := (mkF m 107 #[.val (.int p1), .val (.int p2), .val (.int p3), .val (.int p4), .val (.int p5), .val (.int (Int32.ofNat i1)), .val (.int (Int32.ofNat i2)), .val (.int (Int32.ofNat i3)), .val (.int (Int32.ofNat i4)), .val (.int v1), .val (.int v2), .val (.int v3), .val (.int v4), .val (.ref b52), .unset] [(.ref b52)])) (fun zt zk => XS.aload X57.here hx rfl (hb hby at_105) rfl rfl zk) ?_
  refine own_st (g1 := (mkF m 109 #[.val (.int p1), .val (.int p2), .val (.int p3), .val (.int p4), .val (.int p5), .val (.int (Int32.ofNat i1)), .val (.int (Int32.ofNat i2)), .val (.int (Int32.ofNat i3)), .val (.int (Int32.ofNat i4)), .val (.int v1), .val (.int v2), .val (.int v3), .val (.int v4), .val (.ref b52), .unset] [(.int (Int32.ofNat i2)), (.ref b52)])) (fun zt zk => XS.iload X57.here hx rfl (hb hby at_107) rfl zk) ?_
  refine own_st (g1 := (mkF m 111 #[.val (.int p1), .val (.int p2), .val (.int p3), .val (.int p4), .val (.int p5), .val (.int (Int32.ofNat i1)), .val (.int (Int32.ofNat i2)), .val (.int (Int32.ofNat i3)), .val (.int (Int32.ofNat i4)), .val (.int v1), .val (.int v2), .val (.int v3), .val (.int v4), .val (.ref b52), .unset] [(.ref b52), (.int (Int32.ofNat i2)), (.ref b52)])) (fun zt zk => XS.aload X57.here hx rfl (hb hby at_109) rfl rfl zk) ?_
  refine own_st (g1 := (mkF m 113 #[.val (.int p1), .val (.int p2), .val (.int p3), .val (.int p4), .val (.int p5), .val (.int (Int32.ofNat i1)), .val (.int (Int32.ofNat i2)), .val (.int (Int32.ofNat i3)), .val (.int (Int32.ofNat i4)), .val (.int v1), .val (.int v2), .val (.int v3), .val (.int v4), .val (.ref b52), .unset] [(.int (Int32.ofNat i2)), (.ref b52), (.int (Int32.ofNat i2)), (.ref b52)])) (fun zt zk => XS.iload X57.here hx rfl (hb hby at_111) rfl zk) ?_
  refine own_st (g1 := (mkF m 114 #[.val (.int p1), .val (.int p2), .val (.int p3), .val (.int p4), .val (.int p5), .val (.int (Int32.ofNat i1)), .val (.int (Int32.ofNat i2)), .val (.int (Int32.ofNat i3)), .val (.int (Int32.ofNat i4)), .val (.int v1), .val (.int v2), .val (.int v3), .val (.int v4), .val (.ref b52), .unset] [(.int (e1f i2)), (.int (Int32.ofNat i2)), (.ref b52)])) (own_ild X57 hx hZ e57 Y0 (j := i2) (v := (.int (e1f i2))) rfl hi2 (by decide) rfl (g := (mkF m 113 #[.val (.int p1), .val (.int p2), .val (.int p3), .val (.int p4), .val (.int p5), .val (.int (Int32.ofNat i1)), .val (.int (Int32.ofNat i2)), .val (.int (Int32.ofNat i3)), .val (.int (Int32.ofNat i4)), .val (.int v1), .val (.int v2), .val (.int v3), .val (.int v4), .val (.ref b52), .unset] [(.int (Int32.ofNat i2)), (.ref b52), (.int (Int32.ofNat i2)), (.ref b52)])) rfl rfl (hb hby at_113)) ?_
  refine own_st (g1 := (mkF m 116 #[.val (.int p1), .val (.int p2), .val (.int p3), .val (.int p4), .val (.int p5), .val (.int (Int32.ofNat i1)), .val (.int (Int32.ofNat i2)), .val (.int (Int32.ofNat i3)), .val (.int (Int32.ofNat i4)), .val (.int v1), .val (.int v2), .val (.int v3), .val (.int v4), .val (.ref b52), .unset] [(.int v2), (.int (e1f i2)), (.int (Int32.ofNat i2)), (.ref b52)])) (fun zt zk => XS.iload X57.here hx rfl (hb hby at_114) rfl zk) ?_
  obtain ⟨_, _, ⟨T58, L58, k58, n58⟩, -, X58, ⟨Lc58, hQ58, l58, y58, z58⟩, st58⟩ := Jvm.LawKit.callS X57 hx (y := (⟨"java/lang/Math", "min", "(II)I"⟩ : MethodName)) hown (mvT hZ (hw _ (List.mem_of_getElem? (i := 6) rfl))) (mvT hZ (hw _ (List.mem_of_getElem? (i := 7) rfl))) (mvT hZ (hw _ (List.mem_of_getElem? (i := 8) rfl))) (mvT hZ (hw _ (List.mem_of_getElem? (i := 9) rfl))) (by decide) (backOf (W := 2) (rm2 l Z a0 hw [] (e1f i2) v2 h57 n0) hZ (hw _ (List.mem_of_getElem? (i := 9) rfl)) (hw _ (List.mem_of_getElem? (i := 8) rfl)) (by decide) (by decide)) (g := (mkF m 116 #[.val (.int p1), .val (.int p2), .val (.int p3), .val (.int p4), .val (.int p5), .val (.int (Int32.ofNat i1)), .val (.int (Int32.ofNat i2)), .val (.int (Int32.ofNat i3)), .val (.int (Int32.ofNat i4)), .val (.int v1), .val (.int v2), .val (.int v3), .val (.int v4), .val (.ref b52), .unset] [(.int v2), (.int (e1f i2)), (.int (Int32.ofNat i2)), (.ref b52)])) rfl (by rw [hml]; rfl) (argsL := [(.int (e1f i2)), (.int v2)]) (rest := [(.int (Int32.ofNat i2)), (.ref b52)]) (lenOf pd_1 rfl) rfl (by show 2 * 0 + _ ≤ _; exact Nat.le_of_eq rfl) (hb hby at_116) (fun _ _ => ⟨rfl, e57, (by decide : 0 + 0 + 0 + 0 + 0 + 1 + 0 + 0 ≤ _), (by decide : 0 + 0 + 0 + 0 + 0 + 3 + 0 + 0 ≤ _)⟩)
  dsimp only [Pt.U, Pt.locs, Pt.cells, Pt.slots] at X58 l58 y58 z58 st58 hQ58
  replace X58 := own_stand X58 l58 y58 z58
  clear l58 y58 z58
  obtain ⟨rfl, N58, hh58⟩ := hQ58
  refine own_st (g1 := (mkF m 119 #[.val (.int p1), .val (.int p2), .val (.int p3), .val (.int p4), .val (.int p5), .val (.int (Int32.ofNat i1)), .val (.int (Int32.ofNat i2)), .val (.int (Int32.ofNat i3)), .val (.int (Int32.ofNat i4)), .val (.int v1), .val (.int v2), .val (.int v3), .val (.int v4), .val (.ref b52), .unset] [(.int (own_min (e1f i2) v2)), (.int (Int32.ofNat i2)), (.ref b52)])) (st58) ?_
  have eh58 : T58.heap = h57 := hh58
  obtain ⟨T59, h59, X59, e59, W59, st59⟩ := own_ist X58 hx hZ eh58 Y0 (j := i2) rfl hi2 (by decide) (g := (mkF m 119 #[.val (.int p1), .val (.int p2), .val (.int p3), .val (.int p4), .val (.int p5), .val (.int (Int32.ofNat i1)), .val (.int (Int32.ofNat i2)), .val (.int (Int32.ofNat i3)), .val (.int (Int32.ofNat i4)), .val (.int v1), .val (.int v2), .val (.int v3), .val (.int v4), .val (.ref b52), .unset] [(.int (own_min (e1f i2) v2)), (.int (Int32.ofNat i2)), (.ref b52)])) rfl rfl (hb hby at_119)
  refine own_st (g1 := (mkF m 120 #[.val (.int p1), .val (.int p2), .val (.int p3), .val (.int p4), .val (.int p5), .val (.int (Int32.ofNat i1)), .val (.int (Int32.ofNat i2)), .val (.int (Int32.ofNat i3)), .val (.int (Int32.ofNat i4)), .val (.int v1), .val (.int v2), .val (.int v3), .val (.int v4), .val (.ref b52), .unset] [])) (st59) ?_
  have Y1 := Y0.setI W59
  have S1 := Fr.snoc X59 (Fr.app S0 N58) gk
  have Zt1 : n0 ≤ h59.size := by rw [Wr.size W59]; exact Zt0
  obtain ⟨e2f, he2⟩ : ∃ g : Nat → Int32, g = upd e1f i2 (own_min (e1f i2) v2) := ⟨_, rfl⟩
  rw [← he2] at Y1
  obtain ⟨T60, h60, X60, e60, E60, A60, D60, -, st60⟩ := newO X59 hx hZ hown (hw _ (List.mem_of_getElem? (i := 10) rfl)) (hw _ (List.mem_of_getElem? (i := 11) rfl)) (hw _ (List.mem_of_getElem? (i := 12) rfl)) e59 (g := (mkF m 120 #[.val (.int p1), .val (.int p2), .val (.int p3), .val (.int p4), .val (.int p5), .val (.int (Int32.ofNat i1)), .val (.int (Int32.ofNat i2)), .val (.int (Int32.ofNat i3)), .val (.int (Int32.ofNat i4)), .val (.int v1), .val (.int v2), .val (.int v3), .val (.int v4), .val (.ref b52), .unset] [])) rfl (hb hby at_120) (by decide) (by decide)
  obtain ⟨b60, g60⟩ : ∃ z, z = h59.size := ⟨_, rfl⟩
  rw [← g60] at A60 D60 st60
  refine own_st (g1 := (mkF m 123 #[.val (.int p1), .val (.int p2), .val (.int p3), .val (.int p4), .val (.int p5), .val (.int (Int32.ofNat i1)), .val (.int (Int32.ofNat i2)), .val (.int (Int32.ofNat i3)), .val (.int (Int32.ofNat i4)), .val (.int v1), .val (.int v2), .val (.int v3), .val (.int v4), .val (.ref b52), .unset] [(.ref b60)])) (st60) ?_
  have Zo := Nat.le_trans Zt1 E60.1
  have go : n0 ≤ b60 := by omega
  have hko : b52 < b60 := by have := Y1.lt; omega
  have Y2 := Y1.ext E60
  have Fll : Fld Z h60 b60 "com/example/rackweave/rackweave/core/ChangeMarks" "loweredLinks" "[I" .null := D60 (Or.inl (hw _ (List.mem_of_getElem? (i := 20) rfl))) (ty := (.array .int)) (by decide)
  have Flf : Fld Z h60 b60 "com/example/rackweave/rackweave/core/ChangeMarks" "loweredFrom" "[I" .null := D60 (Or.inl (hw _ (List.mem_of_getElem? (i := 22) rfl))) (ty := (.array .int)) (by decide)
  have Fcf : Fld Z h60 b60 "com/example/rackweave/rackweave/core/ChangeMarks" "changedFrom" "[I" .null := D60 (Or.inr (hw _ (List.mem_of_getElem? (i := 24) rfl))) (ty := (.array .int)) (by decide)
  have Fcl : Fld Z h60 b60 "com/example/rackweave/rackweave/core/ChangeMarks" "changedLinks" "[I" .null := D60 (Or.inr (hw _ (List.mem_of_getElem? (i := 31) rfl))) (ty := (.array .int)) (by decide)
  have Fcc : Fld Z h60 b60 "com/example/rackweave/rackweave/core/ChangeMarks" "changedCount" "I" (.int (0 : Int32)) := D60 (Or.inl (hw _ (List.mem_of_getElem? (i := 38) rfl))) (ty := .int) (by decide)
  have Flc : Fld Z h60 b60 "com/example/rackweave/rackweave/core/ChangeMarks" "loweredCount" "I" (.int (0 : Int32)) := D60 (Or.inl (hw _ (List.mem_of_getElem? (i := 41) rfl))) (ty := .int) (by decide)
  have Fkc : Fld Z h60 b60 "com/example/rackweave/rackweave/core/ChangeMarks" "keptCount" "I" (.int (0 : Int32)) := D60 (Or.inl (hw _ (List.mem_of_getElem? (i := 48) rfl))) (ty := .int) (by decide)
  refine own_st (g1 := (mkF m 124 #[.val (.int p1), .val (.int p2), .val (.int p3), .val (.int p4), .val (.int p5), .val (.int (Int32.ofNat i1)), .val (.int (Int32.ofNat i2)), .val (.int (Int32.ofNat i3)), .val (.int (Int32.ofNat i4)), .val (.int v1), .val (.int v2), .val (.int v3), .val (.int v4), .val (.ref b52), .unset] [(.ref b60), (.ref b60)])) (fun zt zk => XS.dup X60.here hx rfl (hb hby at_123) rfl rfl zk) ?_
  refine own_st (g1 := (mkF m 125 #[.val (.int p1), .val (.int p2), .val (.int p3), .val (.int p4), .val (.int p5), .val (.int (Int32.ofNat i1)), .val (.int (Int32.ofNat i2)), .val (.int (Int32.ofNat i3)), .val (.int (Int32.ofNat i4)), .val (.int v1), .val (.int v2), .val (.int v3), .val (.int v4), .val (.ref b52), .unset] [(.int (3 : Int32)), (.ref b60), (.ref b60)])) (fun zt zk => XS.iconst X60.here hx rfl (hb hby at_124) zk) ?_
  obtain ⟨_, _, ⟨T61, L61, k61, n61⟩, -, X61, ⟨Lc61, hQ61, l61, y61, z61⟩, st61⟩ := X60.specialBack hx (y := (⟨"com/example/rackweave/rackweave/core/ChangeMarks", "<init>", "(I)V"⟩ : MethodName)) rfl hown (mvT hZ (hw _ (List.mem_of_getElem? (i := 13) rfl))) (mvT hZ (hw _ (List.mem_of_getElem? (i := 14) rfl))) (mvT hZ (hw _ (List.mem_of_getElem? (i := 15) rfl))) (by decide) (backOf (W := 1) (rm3 l Z a0 hw [] b60 h60 n0 Zo go A60 Fll Flf Fcf Fcl Fcc Flc Fkc) hZ (hw _ (List.mem_of_getElem? (i := 15) rfl)) (hw _ (List.mem_of_getElem? (i := 12) rfl)) (by decide) (by decide)) (g := (mkF m 125 #[.val (.int p1), .val (.int p2), .val (.int p3), .val (.int p4), .val (.int p5), .val (.int (Int32.ofNat i1)), .val (.int (Int32.ofNat i2)), .val (.int (Int32.ofNat i3)), .val (.int (Int32.ofNat i4)), .val (.int v1), .val (.int v2), .val (.int v3), .val (.int v4), .val (.ref b52), .unset] [(.int (3 : Int32)), (.ref b60), (.ref b60)])) rfl (by rw [hml]; rfl) (Steps.refl _) (a := b60) (argsL := [(.int (3 : Int32))]) (rest := [(.ref b60)]) (lenOf pd_3 rfl) rfl (by show 2 * 0 + _ ≤ _; exact Nat.le_of_eq rfl) (hb hby at_125) (fun _ _ => ⟨rfl, e60, (by decide : 0 + 0 + 0 + 0 + 0 + 1 + 0 + 0 + 1 + 4 ≤ _), (by decide : 0 + 0 + 0 + 0 + 0 + 3 + 0 + 0 + 7 + 38 ≤ _)⟩)
  dsimp only [Pt.U, Pt.locs, Pt.cells, Pt.slots] at X61 l61 y61 z61 st61 hQ61
  replace X61 := own_stand X61 l61 y61 z61
  clear l61 y61 z61
  obtain ⟨ll, lf, cf, cl, rfl, N61, hll, K61, H61⟩ := hQ61
  refine own_st (g1 := (mkF m 128 #[.val (.int p1), .val (.int p2), .val (.int p3), .val (.int p4), .val (.int p5), .val (.int (Int32.ofNat i1)), .val (.int (Int32.ofNat i2)), .val (.int (Int32.ofNat i3)), .val (.int (Int32.ofNat i4)), .val (.int v1), .val (.int v2), .val (.int v3), .val (.int v4), .val (.ref b52), .unset] [(.ref b60)])) (fun zt zk => st61.trans zk) ?_
  have Y3 := Y2.keep K61 (own_nin (by omega) nin0)
  have G0 := Fr.app S1 N61
  have hkl : b52 < h60.size := Y2.lt
  have hord := H61.1
  obtain ⟨q1, q2, q3, q4, q5⟩ := hord
  have hnin : b52 ∉ [b60, ll, lf, cf, cl] := own_nin (by omega) (own_nin (by omega) (own_nin (by omega) (own_nin (by omega) (own_nin (by omega) nin0))))
  have I0 := own_start
  refine own_st (g1 := (mkF m 130 #[.val (.int p1), .val (.int p2), .val (.int p3), .val (.int p4), .val (.int p5), .val (.int (Int32.ofNat i1)), .val (.int (Int32.ofNat i2)), .val (.int (Int32.ofNat i3)), .val (.int (Int32.ofNat i4)), .val (.int v1), .val (.int v2), .val (.int v3), .val (.int v4), .val (.ref b52), .val (.ref b60)] [])) (fun zt zk => XS.astore X61.here hx rfl (hb hby at_128) rfl rfl (l' := #[.val (.int p1), .val (.int p2), .val (.int p3), .val (.int p4), .val (.int p5), .val (.int (Int32.ofNat i1)), .val (.int (Int32.ofNat i2)), .val (.int (Int32.ofNat i3)), .val (.int (Int32.ofNat i4)), .val (.int v1), .val (.int v2), .val (.int v3), .val (.int v4), .val (.ref b52), .val (.ref b60)]) rfl zk) ?_
  refine own_st (g1 := (mkF m 132 #[.val (.int p1), .val (.int p2), .val (.int p3), .val (.int p4), .val (.int p5), .val (.int (Int32.ofNat i1)), .val (.int (Int32.ofNat i2)), .val (.int (Int32.ofNat i3)), .val (.int (Int32.ofNat i4)), .val (.int v1), .val (.int v2), .val (.int v3), .val (.int v4), .val (.ref b52), .val (.ref b60)] [(.ref b60)])) (fun zt zk => XS.aload X61.here hx rfl (hb hby at_130) rfl rfl zk) ?_
  refine own_st (g1 := (mkF m 134 #[.val (.int p1), .val (.int p2), .val (.int p3), .val (.int p4), .val (.int p5), .val (.int (Int32.ofNat i1)), .val (.int (Int32.ofNat i2)), .val (.int (Int32.ofNat i3)), .val (.int (Int32.ofNat i4)), .val (.int v1), .val (.int v2), .val (.int v3), .val (.int v4), .val (.ref b52), .val (.ref b60)] [(.int (Int32.ofNat i1)), (.ref b60)])) (fun zt zk => XS.iload X61.here hx rfl (hb hby at_132) rfl zk) ?_
  refine own_st (g1 := (mkF m 136 #[.val (.int p1), .val (.int p2), .val (.int p3), .val (.int p4), .val (.int p5), .val (.int (Int32.ofNat i1)), .val (.int (Int32.ofNat i2)), .val (.int (Int32.ofNat i3)), .val (.int (Int32.ofNat i4)), .val (.int v1), .val (.int v2), .val (.int v3), .val (.int v4), .val (.ref b52), .val (.ref b60)] [(.int v1), (.int (Int32.ofNat i1)), (.ref b60)])) (fun zt zk => XS.iload X61.here hx rfl (hb hby at_134) rfl zk) ?_
  obtain ⟨cq62, kq62, q62a, q62b, q62c⟩ := isOf hZ rfl H61.2.2.1
  obtain ⟨_, _, ⟨T62, L62, k62, n62⟩, -, X62, ⟨Lc62, hQ62, l62, y62, z62⟩, st62⟩ := X61.virtualBack hx (y := (⟨"com/example/rackweave/rackweave/core/ChangeMarks", "mark", "(II)V"⟩ : MethodName)) (z := (⟨"com/example/rackweave/rackweave/core/ChangeMarks", "mark", "(II)V"⟩ : MethodName)) hown (mvT hZ (hw _ (List.mem_of_getElem? (i := 32) rfl))) (mvT hZ (hw _ (List.mem_of_getElem? (i := 33) rfl))) (notFace_of_selects (args := #[]) (mvT hZ (hw _ (List.mem_of_getElem? (i := 35) rfl)))) (mvT hZ (hw _ (List.mem_of_getElem? (i := 35) rfl))) (mvT hZ (hw _ (List.mem_of_getElem? (i := 34) rfl))) (by decide) (backOf (W := 0) (rm6 l Z a0 hw [] i1 v1 b60 ll lf cf cl (fun _ => 0) (fun _ => 0) (fun _ => (2147483647 : Int32)) (fun _ => 0) 0 0 0 T61.heap n0 hi1 (I0.1 i1 hi1) (by have := I0.2.2.1; omega) I0.2.1 H61) hZ (hw _ (List.mem_of_getElem? (i := 36) rfl)) (hw _ (List.mem_of_getElem? (i := 12) rfl)) (by decide) (by decide)) q62a q62c (g := (mkF m 136 #[.val (.int p1), .val (.int p2), .val (.int p3), .val (.int p4), .val (.int p5), .val (.int (Int32.ofNat i1)), .val (.int (Int32.ofNat i2)), .val (.int (Int32.ofNat i3)), .val (.int (Int32.ofNat i4)), .val (.int v1), .val (.int v2), .val (.int v3), .val (.int v4), .val (.ref b52), .val (.ref b60)] [(.int v1), (.int (Int32.ofNat i1)), (.ref b60)])) rfl (by rw [hml]; rfl) (Steps.refl _) (argsL := [(.int (Int32.ofNat i1)), (.int v1)]) (rest := []) (lenOf pd_4 rfl) rfl (by show 2 * 0 + _ ≤ _; exact Nat.le_of_eq rfl) (hb hby at_136) (fun _ _ => ⟨rfl, rfl, (by decide : 0 + 0 + 0 + 0 + 0 + 1 + 0 + 0 + 1 + 4 + 0 ≤ _), (by decide : 0 + 0 + 0 + 0 + 0 + 3 + 0 + 0 + 7 + 38 + 0 ≤ _)⟩)
  dsimp only [Pt.U, Pt.locs, Pt.cells, Pt.slots] at X62 l62 y62 z62 st62 hQ62
  replace X62 := own_stand X62 l62 y62 z62
  clear l62 y62 z62
  obtain ⟨a1, b1f, c1, d1, x1, y1, rfl, N62, K62, mk1, H62⟩ := hQ62
  refine own_st (g1 := (mkF m 139 #[.val (.int p1), .val (.int p2), .val (.int p3), .val (.int p4), .val (.int p5), .val (.int (Int32.ofNat i1)), .val (.int (Int32.ofNat i2)), .val (.int (Int32.ofNat i3)), .val (.int (Int32.ofNat i4)), .val (.int v1), .val (.int v2), .val (.int v3), .val (.int v4), .val (.ref b52), .val (.ref b60)] [])) (fun zt zk => st62.trans zk) ?_
  have Ym1 := Y3.keep K62 hnin
  have Gm1 := Fr.app G0 N62
  have I1 := own_step hi1 hv1 I0 mk1
  refine own_st (g1 := (mkF m 141 #[.val (.int p1), .val (.int p2), .val (.int p3), .val (.int p4), .val (.int p5), .val (.int (Int32.ofNat i1)), .val (.int (Int32.ofNat i2)), .val (.int (Int32.ofNat i3)), .val (.int (Int32.ofNat i4)), .val (.int v1), .val (.int v2), .val (.int v3), .val (.int v4), .val (.ref b52), .val (.ref b60)] [(.ref b60)])) (fun zt zk => XS.aload X62.here hx rfl (hb hby at_139) rfl rfl zk) ?_
  refine own_st (g1 := (mkF m 143 #[.val (.int p1), .val (.int p2), .val (.int p3), .val (.int p4), .val (.int p5), .val (.int (Int32.ofNat i1)), .val (.int (Int32.ofNat i2)), .val (.int (Int32.ofNat i3)), .val (.int (Int32.ofNat i4)), .val (.int v1), .val (.int v2), .val (.int v3), .val (.int v4), .val (.ref b52), .val (.ref b60)] [(.int (Int32.ofNat i2)), (.ref b60)])) (fun zt zk => XS.iload X62.here hx rfl (hb hby at_141) rfl zk) ?_
  refine own_st (g1 := (mkF m 145 #[.val (.int p1), .val (.int p2), .val (.int p3), .val (.int p4), .val (.int p5), .val (.int (Int32.ofNat i1)), .val (.int (Int32.ofNat i2)), .val (.int (Int32.ofNat i3)), .val (.int (Int32.ofNat i4)), .val (.int v1), .val (.int v2), .val (.int v3), .val (.int v4), .val (.ref b52), .val (.ref b60)] [(.int v2), (.int (Int32.ofNat i2)), (.ref b60)])) (fun zt zk => XS.iload X62.here hx rfl (hb hby at_143) rfl zk) ?_
  obtain ⟨cq63, kq63, q63a, q63b, q63c⟩ := isOf hZ rfl H62.2.2.1
  obtain ⟨_, _, ⟨T63, L63, k63, n63⟩, -, X63, ⟨Lc63, hQ63, l63, y63, z63⟩, st63⟩ := X62.virtualBack hx (y := (⟨"com/example/rackweave/rackweave/core/ChangeMarks", "mark", "(II)V"⟩ : MethodName)) (z := (⟨"com/example/rackweave/rackweave/core/ChangeMarks", "mark", "(II)V"⟩ : MethodName)) hown (mvT hZ (hw _ (List.mem_of_getElem? (i := 32) rfl))) (mvT hZ (hw _ (List.mem_of_getElem? (i := 33) rfl))) (notFace_of_selects (args := #[]) (mvT hZ (hw _ (List.mem_of_getElem? (i := 35) rfl)))) (mvT hZ (hw _ (List.mem_of_getElem? (i := 35) rfl))) (mvT hZ (hw _ (List.mem_of_getElem? (i := 34) rfl))) (by decide) (backOf (W := 0) (rm6 l Z a0 hw [] i2 v2 b60 ll lf cf cl a1 b1f c1 d1 x1 y1 0 T62.heap n0 hi2 (I1.1 i2 hi2) (by have := I1.2.2.1; omega) I1.2.1 H62) hZ (hw _ (List.mem_of_getElem? (i := 36) rfl)) (hw _ (List.mem_of_getElem? (i := 12) rfl)) (by decide) (by decide)) q63a q63c (g := (mkF m 145 #[.val (.int p1), .val (.int p2), .val (.int p3), .val (.int p4), .val (.int p5), .val (.int (Int32.ofNat i1)), .val (.int (Int32.ofNat i2)), .val (.int (Int32.ofNat i3)), .val (.int (Int32.ofNat i4)), .val (.int v1), .val (.int v2), .val (.int v3), .val (.int v4), .val (.ref b52), .val (.ref b60)] [(.int v2), (.int (Int32.ofNat i2)), (.ref b60)])) rfl (by rw [hml]; rfl) (Steps.refl _) (argsL := [(.int (Int32.ofNat i2)), (.int v2)]) (rest := []) (lenOf pd_4 rfl) rfl (by show 2 * 0 + _ ≤ _; exact Nat.le_of_eq rfl) (hb hby at_145) (fun _ _ => ⟨rfl, rfl, (by decide : 0 + 0 + 0 + 0 + 0 + 1 + 0 + 0 + 1 + 4 + 0 + 0 ≤ _), (by decide : 0 + 0 + 0 + 0 + 0 + 3 + 0 + 0 + 7 + 38 + 0 + 0 ≤ _)⟩)
  dsimp only [Pt.U, Pt.locs, Pt.cells, Pt.slots] at X63 l63 y63 z63 st63 hQ63
  replace X63 := own_stand X63 l63 y63 z63
  clear l63 y63 z63
  obtain ⟨a2, b2f, c2, d2, x2, y2, rfl, N63, K63, mk2, H63⟩ := hQ63
  refine own_st (g1 := (mkF m 148 #[.val (.int p1), .val (.int p2), .val (.int p3), .val (.int p4), .val (.int p5), .val (.int (Int32.ofNat i1)), .val (.int (Int32.ofNat i2)), .val (.int (Int32.ofNat i3)), .val (.int (Int32.ofNat i4)), .val (.int v1), .val (.int v2), .val (.int v3), .val (.int v4), .val (.ref b52), .val (.ref b60)] [])) (fun zt zk => st63.trans zk) ?_
  have Ym2 := Ym1.keep K63 hnin
  have Gm2 := Fr.app Gm1 N63
  have I2 := own_step hi2 hv2 I1 mk2
  refine own_st (g1 := (mkF m 150 #[.val (.int p1), .val (.int p2), .val (.int p3), .val (.int p4), .val (.int p5), .val (.int (Int32.ofNat i1)), .val (.int (Int32.ofNat i2)), .val (.int (Int32.ofNat i3)), .val (.int (Int32.ofNat i4)), .val (.int v1), .val (.int v2), .val (.int v3), .val (.int v4), .val (.ref b52), .val (.ref b60)] [(.ref b60)])) (fun zt zk => XS.aload X63.here hx rfl (hb hby at_148) rfl rfl zk) ?_
  obtain ⟨cq64, kq64, q64a, q64b, q64c⟩ := isOf hZ rfl H63.2.2.1
  obtain ⟨_, _, ⟨T64, L64, k64, n64⟩, -, X64, ⟨Lc64, hQ64, l64, y64, z64⟩, st64⟩ := X63.virtualBack hx (y := (⟨"com/example/rackweave/rackweave/core/ChangeMarks", "keep", "()V"⟩ : MethodName)) (z := (⟨"com/example/rackweave/rackweave/core/ChangeMarks", "keep", "()V"⟩ : MethodName)) hown (mvT hZ (hw _ (List.mem_of_getElem? (i := 42) rfl))) (mvT hZ (hw _ (List.mem_of_getElem? (i := 43) rfl))) (notFace_of_selects (args := #[]) (mvT hZ (hw _ (List.mem_of_getElem? (i := 45) rfl)))) (mvT hZ (hw _ (List.mem_of_getElem? (i := 45) rfl))) (mvT hZ (hw _ (List.mem_of_getElem? (i := 44) rfl))) (by decide) (backOf (W := 0) (rm7 l Z a0 hw [] b60 ll lf cf cl a2 b2f c2 d2 x2 y2 0 T63.heap n0 H63) hZ (hw _ (List.mem_of_getElem? (i := 46) rfl)) (hw _ (List.mem_of_getElem? (i := 12) rfl)) (by decide) (by decide)) q64a q64c (g := (mkF m 150 #[.val (.int p1), .val (.int p2), .val (.int p3), .val (.int p4), .val (.int p5), .val (.int (Int32.ofNat i1)), .val (.int (Int32.ofNat i2)), .val (.int (Int32.ofNat i3)), .val (.int (Int32.ofNat i4)), .val (.int v1), .val (.int v2), .val (.int v3), .val (.int v4), .val (.ref b52), .val (.ref b60)] [(.ref b60)])) rfl (by rw [hml]; rfl) (Steps.refl _) (argsL := []) (rest := []) (lenOf pd_5 rfl) rfl (by show 2 * 0 + _ ≤ _; exact Nat.le_of_eq rfl) (hb hby at_150) (fun _ _ => ⟨rfl, rfl, (by decide : 0 + 0 + 0 + 0 + 0 + 1 + 0 + 0 + 1 + 4 + 0 + 0 + 0 ≤ _), (by decide : 0 + 0 + 0 + 0 + 0 + 3 + 0 + 0 + 7 + 38 + 0 + 0 + 0 ≤ _)⟩)
  dsimp only [Pt.U, Pt.locs, Pt.cells, Pt.slots] at X64 l64 y64 z64 st64 hQ64
  replace X64 := own_stand X64 l64 y64 z64
  clear l64 y64 z64
  obtain ⟨rfl, N64, K64, H64⟩ := hQ64
  refine own_st (g1 := (mkF m 153 #[.val (.int p1), .val (.int p2), .val (.int p3), .val (.int p4), .val (.int p5), .val (.int (Int32.ofNat i1)), .val (.int (Int32.ofNat i2)), .val (.int (Int32.ofNat i3)), .val (.int (Int32.ofNat i4)), .val (.int v1), .val (.int v2), .val (.int v3), .val (.int v4), .val (.ref b52), .val (.ref b60)] [])) (fun zt zk => st64.trans zk) ?_
  have Yk := Ym2.keep K64 hnin
  have Gk := Fr.app Gm2 N64
  have Ik := own_kept I2
  refine own_st (g1 := (mkF m 155 #[.val (.int p1), .val (.int p2), .val (.int p3), .val (.int p4), .val (.int p5), .val (.int (Int32.ofNat i1)), .val (.int (Int32.ofNat i2)), .val (.int (Int32.ofNat i3)), .val (.int (Int32.ofNat i4)), .val (.int v1), .val (.int v2), .val (.int v3), .val (.int v4), .val (.ref b52), .val (.ref b60)] [(.ref b60)])) (fun zt zk => XS.aload X64.here hx rfl (hb hby at_153) rfl rfl zk) ?_
  refine own_st (g1 := (mkF m 157 #[.val (.int p1), .val (.int p2), .val (.int p3), .val (.int p4), .val (.int p5), .val (.int (Int32.ofNat i1)), .val (.int (Int32.ofNat i2)), .val (.int (Int32.ofNat i3)), .val (.int (Int32.ofNat i4)), .val (.int v1), .val (.int v2), .val (.int v3), .val (.int v4), .val (.ref b52), .val (.ref b60)] [(.int (Int32.ofNat i3)), (.ref b60)])) (fun zt zk => XS.iload X64.here hx rfl (hb hby at_155) rfl zk) ?_
  refine own_st (g1 := (mkF m 159 #[.val (.int p1), .val (.int p2), .val (.int p3), .val (.int p4), .val (.int p5), .val (.int (Int32.ofNat i1)), .val (.int (Int32.ofNat i2)), .val (.int (Int32.ofNat i3)), .val (.int (Int32.ofNat i4)), .val (.int v1), .val (.int v2), .val (.int v3), .val (.int v4), .val (.ref b52), .val (.ref b60)] [(.int v3), (.int (Int32.ofNat i3)), (.ref b60)])) (fun zt zk => XS.iload X64.here hx rfl (hb hby at_157) rfl zk) ?_
  obtain ⟨cq65, kq65, q65a, q65b, q65c⟩ := isOf hZ rfl H64.2.2.1
  obtain ⟨_, _, ⟨T65, L65, k65, n65⟩, -, X65, ⟨Lc65, hQ65, l65, y65, z65⟩, st65⟩ := X64.virtualBack hx (y := (⟨"com/example/rackweave/rackweave/core/ChangeMarks", "mark", "(II)V"⟩ : MethodName)) (z := (⟨"com/example/rackweave/rackweave/core/ChangeMarks", "mark", "(II)V"⟩ : MethodName)) hown (mvT hZ (hw _ (List.mem_of_getElem? (i := 32) rfl))) (mvT hZ (hw _ (List.mem_of_getElem? (i := 33) rfl))) (notFace_of_selects (args := #[]) (mvT hZ (hw _ (List.mem_of_getElem? (i := 35) rfl)))) (mvT hZ (hw _ (List.mem_of_getElem? (i := 35) rfl))) (mvT hZ (hw _ (List.mem_of_getElem? (i := 34) rfl))) (by decide) (backOf (W := 0) (rm6 l Z a0 hw [] i3 v3 b60 ll lf cf cl a2 b2f c2 d2 x2 0 x2 T64.heap n0 hi3 (Ik.1 i3 hi3) (by have := Ik.2.2.1; omega) Ik.2.1 H64) hZ (hw _ (List.mem_of_getElem? (i := 36) rfl)) (hw _ (List.mem_of_getElem? (i := 12) rfl)) (by decide) (by decide)) q65a q65c (g := (mkF m 159 #[.val (.int p1), .val (.int p2), .val (.int p3), .val (.int p4), .val (.int p5), .val (.int (Int32.ofNat i1)), .val (.int (Int32.ofNat i2)), .val (.int (Int32.ofNat i3)), .val (.int (Int32.ofNat i4)), .val (.int v1), .val (.int v2), .val (.int v3), .val (.int v4), .val (.ref b52), .val (.ref b60)] [(.int v3), (.int (Int32.ofNat i3)), (.ref b60)])) rfl (by rw [hml]; rfl) (Steps.refl _) (argsL := [(.int (Int32.ofNat i3)), (.int v3)]) (rest := []) (lenOf pd_4 rfl) rfl (by show 2 * 0 + _ ≤ _; exact Nat.le_of_eq rfl) (hb hby at_159) (fun _ _ => ⟨rfl, rfl, (by decide : 0 + 0 + 0 + 0 + 0 + 1 + 0 + 0 + 1 + 4 + 0 + 0 + 0 + 0 ≤ _), (by decide : 0 + 0 + 0 + 0 + 0 + 3 + 0 + 0 + 7 + 38 + 0 + 0 + 0 + 0 ≤ _)⟩)
  dsimp only [Pt.U, Pt.locs, Pt.cells, Pt.slots] at X65 l65 y65 z65 st65 hQ65
  replace X65 := own_stand X65 l65 y65 z65
  clear l65 y65 z65
  obtain ⟨a3, b3f, c3, d3, x3, y3, rfl, N65, K65, mk3, H65⟩ := hQ65
  refine own_st (g1 := (mkF m 162 #[.val (.int p1), .val (.int p2), .val (.int p3), .val (.int p4), .val (.int p5), .val (.int (Int32.ofNat i1)), .val (.int (Int32.ofNat i2)), .val (.int (Int32.ofNat i3)), .val (.int (Int32.ofNat i4)), .val (.int v1), .val (.int v2), .val (.int v3), .val (.int v4), .val (.ref b52), .val (.ref b60)] [])) (fun zt zk => st65.trans zk) ?_
  have Ym3 := Yk.keep K65 hnin
  have Gm3 := Fr.app Gk N65
  have I3 := own_step hi3 hv3 Ik mk3
  refine own_st (g1 := (mkF m 164 #[.val (.int p1), .val (.int p2), .val (.int p3), .val (.int p4), .val (.int p5), .val (.int (Int32.ofNat i1)), .val (.int (Int32.ofNat i2)), .val (.int (Int32.ofNat i3)), .val (.int (Int32.ofNat i4)), .val (.int v1), .val (.int v2), .val (.int v3), .val (.int v4), .val (.ref b52), .val (.ref b60)] [(.ref b60)])) (fun zt zk => XS.aload X65.here hx rfl (hb hby at_162) rfl rfl zk) ?_
  refine own_st (g1 := (mkF m 166 #[.val (.int p1), .val (.int p2), .val (.int p3), .val (.int p4), .val (.int p5), .val (.int (Int32.ofNat i1)), .val (.int (Int32.ofNat i2)), .val (.int (Int32.ofNat i3)), .val (.int (Int32.ofNat i4)), .val (.int v1), .val (.int v2), .val (.int v3), .val (.int v4), .val (.ref b52), .val (.ref b60)] [(.int (Int32.ofNat i4)), (.ref b60)])) (fun zt zk => XS.iload X65.here hx rfl (hb hby at_164) rfl zk) ?_
  refine own_st (g1 := (mkF m 168 #[.val (.int p1), .val (.int p2), .val (.int p3), .val (.int p4), .val (.int p5), .val (.int (Int32.ofNat i1)), .val (.int (Int32.ofNat i2)), .val (.int (Int32.ofNat i3)), .val (.int (Int32.ofNat i4)), .val (.int v1), .val (.int v2), .val (.int v3), .val (.int v4), .val (.ref b52), .val (.ref b60)] [(.int v4), (.int (Int32.ofNat i4)), (.ref b60)])) (fun zt zk => XS.iload X65.here hx rfl (hb hby at_166) rfl zk) ?_
  obtain ⟨cq66, kq66, q66a, q66b, q66c⟩ := isOf hZ rfl H65.2.2.1
  obtain ⟨_, _, ⟨T66, L66, k66, n66⟩, -, X66, ⟨Lc66, hQ66, l66, y66, z66⟩, st66⟩ := X65.virtualBack hx (y := (⟨"com/example/rackweave/rackweave/core/ChangeMarks", "mark", "(II)V"⟩ : MethodName)) (z := (⟨"com/example/rackweave/rackweave/core/ChangeMarks", "mark", "(II)V"⟩ : MethodName)) hown (mvT hZ (hw _ (List.mem_of_getElem? (i := 32) rfl))) (mvT hZ (hw _ (List.mem_of_getElem? (i := 33) rfl))) (notFace_of_selects (args := #[]) (mvT hZ (hw _ (List.mem_of_getElem? (i := 35) rfl)))) (mvT hZ (hw _ (List.mem_of_getElem? (i := 35) rfl))) (mvT hZ (hw _ (List.mem_of_getElem? (i := 34) rfl))) (by decide) (backOf (W := 0) (rm6 l Z a0 hw [] i4 v4 b60 ll lf cf cl a3 b3f c3 d3 x3 y3 x2 T65.heap n0 hi4 (I3.1 i4 hi4) (by have := I3.2.2.1; omega) I3.2.1 H65) hZ (hw _ (List.mem_of_getElem? (i := 36) rfl)) (hw _ (List.mem_of_getElem? (i := 12) rfl)) (by decide) (by decide)) q66a q66c (g := (mkF m 168 #[.val (.int p1), .val (.int p2), .val (.int p3), .val (.int p4), .val (.int p5), .val (.int (Int32.ofNat i1)), .val (.int (Int32.ofNat i2)), .val (.int (Int32.ofNat i3)), .val (.int (Int32.ofNat i4)), .val (.int v1), .val (.int v2), .val (.int v3), .val (.int v4), .val (.ref b52), .val (.ref b60)] [(.int v4), (.int (Int32.ofNat i4)), (.ref b60)])) rfl (by rw [hml]; rfl) (Steps.refl _) (argsL := [(.int (Int32.ofNat i4)), (.int v4)]) (rest := []) (lenOf pd_4 rfl) rfl (by show 2 * 0 + _ ≤ _; exact Nat.le_of_eq rfl) (hb hby at_168) (fun _ _ => ⟨rfl, rfl, (by decide : 0 + 0 + 0 + 0 + 0 + 1 + 0 + 0 + 1 + 4 + 0 + 0 + 0 + 0 + 0 ≤ _), (by decide : 0 + 0 + 0 + 0 + 0 + 3 + 0 + 0 + 7 + 38 + 0 + 0 + 0 + 0 + 0 ≤ _)⟩)
  dsimp only [Pt.U, Pt.locs, Pt.cells, Pt.slots] at X66 l66 y66 z66 st66 hQ66
  replace X66 := own_stand X66 l66 y66 z66
  clear l66 y66 z66
  obtain ⟨a4, b4f, c4, d4, x4, y4, rfl, N66, K66, mk4, H66⟩ := hQ66
  refine own_st (g1 := (mkF m 171 #[.val (.int p1), .val (.int p2), .val (.int p3), .val (.int p4), .val (.int p5), .val (.int (Int32.ofNat i1)), .val (.int (Int32.ofNat i2)), .val (.int (Int32.ofNat i3)), .val (.int (Int32.ofNat i4)), .val (.int v1), .val (.int v2), .val (.int v3), .val (.int v4), .val (.ref b52), .val (.ref b60)] [])) (fun zt zk => st66.trans zk) ?_
  have Ym4 := Ym3.keep K66 hnin
  have Gm4 := Fr.app Gm3 N66
  have I4 := own_step hi4 hv4 I3 mk4
  refine own_st (g1 := (mkF m 173 #[.val (.int p1), .val (.int p2), .val (.int p3), .val (.int p4), .val (.int p5), .val (.int (Int32.ofNat i1)), .val (.int (Int32.ofNat i2)), .val (.int (Int32.ofNat i3)), .val (.int (Int32.ofNat i4)), .val (.int v1), .val (.int v2), .val (.int v3), .val (.int v4), .val (.ref b52), .val (.ref b60)] [(.ref b60)])) (fun zt zk => XS.aload X66.here hx rfl (hb hby at_171) rfl rfl zk) ?_
  obtain ⟨cq67, kq67, q67a, q67b, q67c⟩ := isOf hZ rfl H66.2.2.1
  obtain ⟨_, _, ⟨T67, L67, k67, n67⟩, -, X67, ⟨Lc67, hQ67, l67, y67, z67⟩, st67⟩ := X66.virtualBack hx (y := (⟨"com/example/rackweave/rackweave/core/ChangeMarks", "restore", "()V"⟩ : MethodName)) (z := (⟨"com/example/rackweave/rackweave/core/ChangeMarks", "restore", "()V"⟩ : MethodName)) hown (mvT hZ (hw _ (List.mem_of_getElem? (i := 49) rfl))) (mvT hZ (hw _ (List.mem_of_getElem? (i := 50) rfl))) (notFace_of_selects (args := #[]) (mvT hZ (hw _ (List.mem_of_getElem? (i := 52) rfl)))) (mvT hZ (hw _ (List.mem_of_getElem? (i := 52) rfl))) (mvT hZ (hw _ (List.mem_of_getElem? (i := 51) rfl))) (by decide) (backOf (W := 0) (rm8 l Z a0 hw [] b60 ll lf cf cl a4 b4f c4 d4 x4 y4 x2 T66.heap n0 I4.2.2.2.1 I4.2.2.2.2.1 (by have := I4.2.2.1; omega) I4.2.1 (own_more mk3 mk4) H66) hZ (hw _ (List.mem_of_getElem? (i := 53) rfl)) (hw _ (List.mem_of_getElem? (i := 12) rfl)) (by decide) (by decide)) q67a q67c (g := (mkF m 173 #[.val (.int p1), .val (.int p2), .val (.int p3), .val (.int p4), .val (.int p5), .val (.int (Int32.ofNat i1)), .val (.int (Int32.ofNat i2)), .val (.int (Int32.ofNat i3)), .val (.int (Int32.ofNat i4)), .val (.int v1), .val (.int v2), .val (.int v3), .val (.int v4), .val (.ref b52), .val (.ref b60)] [(.ref b60)])) rfl (by rw [hml]; rfl) (Steps.refl _) (argsL := []) (rest := []) (lenOf pd_5 rfl) rfl (by show 2 * 0 + _ ≤ _; exact Nat.le_of_eq rfl) (hb hby at_173) (fun _ _ => ⟨rfl, rfl, (by decide : 0 + 0 + 0 + 0 + 0 + 1 + 0 + 0 + 1 + 4 + 0 + 0 + 0 + 0 + 0 + 0 ≤ _), (by decide : 0 + 0 + 0 + 0 + 0 + 3 + 0 + 0 + 7 + 38 + 0 + 0 + 0 + 0 + 0 + 0 ≤ _)⟩)
  dsimp only [Pt.U, Pt.locs, Pt.cells, Pt.slots] at X67 l67 y67 z67 st67 hQ67
  replace X67 := own_stand X67 l67 y67 z67
  clear l67 y67 z67
  obtain ⟨rfl, N67, K67, H67⟩ := hQ67
  refine own_st (g1 := (mkF m 176 #[.val (.int p1), .val (.int p2), .val (.int p3), .val (.int p4), .val (.int p5), .val (.int (Int32.ofNat i1)), .val (.int (Int32.ofNat i2)), .val (.int (Int32.ofNat i3)), .val (.int (Int32.ofNat i4)), .val (.int v1), .val (.int v2), .val (.int v3), .val (.int v4), .val (.ref b52), .val (.ref b60)] [])) (fun zt zk => st67.trans zk) ?_
  have Yr := Ym4.keep K67 hnin
  have Gr := Fr.app Gm4 N67
  have hfin := own_law hi1 hi2 hi3 hi4 hv1 hv2 hv3 hv4 he0 he1 he2 mk1 mk2 mk3 mk4
  refine own_st (g1 := (mkF m 178 #[.val (.int p1), .val (.int p2), .val (.int p3), .val (.int p4), .val (.int p5), .val (.int (Int32.ofNat i1)), .val (.int (Int32.ofNat i2)), .val (.int (Int32.ofNat i3)), .val (.int (Int32.ofNat i4)), .val (.int v1), .val (.int v2), .val (.int v3), .val (.int v4), .val (.ref b52), .val (.ref b60)] [(.ref b60)])) (fun zt zk => XS.aload X67.here hx rfl (hb hby at_176) rfl rfl zk) ?_
  refine own_st (g1 := (mkF m 179 #[.val (.int p1), .val (.int p2), .val (.int p3), .val (.int p4), .val (.int p5), .val (.int (Int32.ofNat i1)), .val (.int (Int32.ofNat i2)), .val (.int (Int32.ofNat i3)), .val (.int (Int32.ofNat i4)), .val (.int v1), .val (.int v2), .val (.int v3), .val (.int v4), .val (.ref b52), .val (.ref b60)] [(.int (0 : Int32)), (.ref b60)])) (fun zt zk => XS.iconst X67.here hx rfl (hb hby at_178) zk) ?_
  obtain ⟨cq68, kq68, q68a, q68b, q68c⟩ := isOf hZ rfl H67.2.2.1
  obtain ⟨_, _, ⟨T68, L68, k68, n68⟩, -, X68, ⟨Lc68, hQ68, l68, y68, z68⟩, st68⟩ := X67.virtualBack hx (y := (⟨"com/example/rackweave/rackweave/core/ChangeMarks", "changedFrom", "(I)I"⟩ : MethodName)) (z := (⟨"com/example/rackweave/rackweave/core/ChangeMarks", "changedFrom", "(I)I"⟩ : MethodName)) hown (mvT hZ (hw _ (List.mem_of_getElem? (i := 54) rfl))) (mvT hZ (hw _ (List.mem_of_getElem? (i := 55) rfl))) (notFace_of_selects (args := #[]) (mvT hZ (hw _ (List.mem_of_getElem? (i := 57) rfl)))) (mvT hZ (hw _ (List.mem_of_getElem? (i := 57) rfl))) (mvT hZ (hw _ (List.mem_of_getElem? (i := 56) rfl))) (by decide) (backOf (W := 0) (rm9 l Z a0 hw [] 0 b60 ll lf cf cl a4 b4f (own_wipe d4 (x4 - x2) x2 (own_undo a4 b4f y4 c4)) d4 x2 0 x2 T67.heap n0 (by decide) H67) hZ (hw _ (List.mem_of_getElem? (i := 58) rfl)) (hw _ (List.mem_of_getElem? (i := 12) rfl)) (by decide) (by decide)) q68a q68c (g := (mkF m 179 #[.val (.int p1), .val (.int p2), .val (.int p3), .val (.int p4), .val (.int p5), .val (.int (Int32.ofNat i1)), .val (.int (Int32.ofNat i2)), .val (.int (Int32.ofNat i3)), .val (.int (Int32.ofNat i4)), .val (.int v1), .val (.int v2), .val (.int v3), .val (.int v4), .val (.ref b52), .val (.ref b60)] [(.int (0 : Int32)), (.ref b60)])) rfl (by rw [hml]; rfl) (Steps.refl _) (argsL := [(.int (0 : Int32))]) (rest := []) (lenOf pd_2 rfl) rfl (by show 2 * 0 + _ ≤ _; exact Nat.le_of_eq rfl) (hb hby at_179) (fun _ _ => ⟨rfl, rfl, (by decide : 0 + 0 + 0 + 0 + 0 + 1 + 0 + 0 + 1 + 4 + 0 + 0 + 0 + 0 + 0 + 0 + 0 ≤ _), (by decide : 0 + 0 + 0 + 0 + 0 + 3 + 0 + 0 + 7 + 38 + 0 + 0 + 0 + 0 + 0 + 0 + 0 ≤ _)⟩)
  dsimp only [Pt.U, Pt.locs, Pt.cells, Pt.slots] at X68 l68 y68 z68 st68 hQ68
  replace X68 := own_stand X68 l68 y68 z68
  clear l68 y68 z68
  obtain ⟨rfl, N68, hh68⟩ := hQ68
  refine own_st (g1 := (mkF m 182 #[.val (.int p1), .val (.int p2), .val (.int p3), .val (.int p4), .val (.int p5), .val (.int (Int32.ofNat i1)), .val (.int (Int32.ofNat i2)), .val (.int (Int32.ofNat i3)), .val (.int (Int32.ofNat i4)), .val (.int v1), .val (.int v2), .val (.int v3), .val (.int v4), .val (.ref b52), .val (.ref b60)] [(.int ((own_wipe d4 (x4 - x2) x2 (own_undo a4 b4f y4 c4)) 0))])) (fun zt zk => st68.trans zk) ?_
  have ehf0 : T68.heap = T67.heap := hh68
  have Gf0 := Fr.app Gr N68
  refine own_st (g1 := (mkF m 184 #[.val (.int p1), .val (.int p2), .val (.int p3), .val (.int p4), .val (.int p5), .val (.int (Int32.ofNat i1)), .val (.int (Int32.ofNat i2)), .val (.int (Int32.ofNat i3)), .val (.int (Int32.ofNat i4)), .val (.int v1), .val (.int v2), .val (.int v3), .val (.int v4), .val (.ref b52), .val (.ref b60)] [(.ref b52), (.int ((own_wipe d4 (x4 - x2) x2 (own_undo a4 b4f y4 c4)) 0))])) (fun zt zk => XS.aload X68.here hx rfl (hb hby at_182) rfl rfl zk) ?_
  refine own_st (g1 := (mkF m 185 #[.val (.int p1), .val (.int p2), .val (.int p3), .val (.int p4), .val (.int p5), .val (.int (Int32.ofNat i1)), .val (.int (Int32.ofNat i2)), .val (.int (Int32.ofNat i3)), .val (.int (Int32.ofNat i4)), .val (.int v1), .val (.int v2), .val (.int v3), .val (.int v4), .val (.ref b52), .val (.ref b60)] [(.int (0 : Int32)), (.ref b52), (.int ((own_wipe d4 (x4 - x2) x2 (own_undo a4 b4f y4 c4)) 0))])) (fun zt zk => XS.iconst X68.here hx rfl (hb hby at_184) zk) ?_
  refine own_st (g1 := (mkF m 186 #[.val (.int p1), .val (.int p2), .val (.int p3), .val (.int p4), .val (.int p5), .val (.int (Int32.ofNat i1)), .val (.int (Int32.ofNat i2)), .val (.int (Int32.ofNat i3)), .val (.int (Int32.ofNat i4)), .val (.int v1), .val (.int v2), .val (.int v3), .val (.int v4), .val (.ref b52), .val (.ref b60)] [(.int (e2f 0)), (.int ((own_wipe d4 (x4 - x2) x2 (own_undo a4 b4f y4 c4)) 0))])) (own_ild X68 hx hZ ehf0 Yr (j := 0) (v := (.int (e2f 0))) rfl (by decide) (by decide) rfl (g := (mkF m 185 #[.val (.int p1), .val (.int p2), .val (.int p3), .val (.int p4), .val (.int p5), .val (.int (Int32.ofNat i1)), .val (.int (Int32.ofNat i2)), .val (.int (Int32.ofNat i3)), .val (.int (Int32.ofNat i4)), .val (.int v1), .val (.int v2), .val (.int v3), .val (.int v4), .val (.ref b52), .val (.ref b60)] [(.int (0 : Int32)), (.ref b52), (.int ((own_wipe d4 (x4 - x2) x2 (own_undo a4 b4f y4 c4)) 0))])) rfl rfl (hb hby at_185)) ?_
  refine own_st (g1 := (mkF m 189 #[.val (.int p1), .val (.int p2), .val (.int p3), .val (.int p4), .val (.int p5), .val (.int (Int32.ofNat i1)), .val (.int (Int32.ofNat i2)), .val (.int (Int32.ofNat i3)), .val (.int (Int32.ofNat i4)), .val (.int v1), .val (.int v2), .val (.int v3), .val (.int v4), .val (.ref b52), .val (.ref b60)] [])) (fun zt zk => XS.icmpNo X68.here hx rfl (hb hby at_186) rfl (teq (hfin 0 (by decide))).2 zk) ?_
  refine own_st (g1 := (mkF m 191 #[.val (.int p1), .val (.int p2), .val (.int p3), .val (.int p4), .val (.int p5), .val (.int (Int32.ofNat i1)), .val (.int (Int32.ofNat i2)), .val (.int (Int32.ofNat i3)), .val (.int (Int32.ofNat i4)), .val (.int v1), .val (.int v2), .val (.int v3), .val (.int v4), .val (.ref b52), .val (.ref b60)] [(.ref b60)])) (fun zt zk => XS.aload X68.here hx rfl (hb hby at_189) rfl rfl zk) ?_
  refine own_st (g1 := (mkF m 192 #[.val (.int p1), .val (.int p2), .val (.int p3), .val (.int p4), .val (.int p5), .val (.int (Int32.ofNat i1)), .val (.int (Int32.ofNat i2)), .val (.int (Int32.ofNat i3)), .val (.int (Int32.ofNat i4)), .val (.int v1), .val (.int v2), .val (.int v3), .val (.int v4), .val (.ref b52), .val (.ref b60)] [(.int (1 : Int32)), (.ref b60)])) (fun zt zk => XS.iconst X68.here hx rfl (hb hby at_191) zk) ?_
  obtain ⟨cq69, kq69, q69a, q69b, q69c⟩ := isOf hZ ehf0 H67.2.2.1
  obtain ⟨_, _, ⟨T69, L69, k69, n69⟩, -, X69, ⟨Lc69, hQ69, l69, y69, z69⟩, st69⟩ := X68.virtualBack hx (y := (⟨"com/example/rackweave/rackweave/core/ChangeMarks", "changedFrom", "(I)I"⟩ : MethodName)) (z := (⟨"com/example/rackweave/rackweave/core/ChangeMarks", "changedFrom", "(I)I"⟩ : MethodName)) hown (mvT hZ (hw _ (List.mem_of_getElem? (i := 54) rfl))) (mvT hZ (hw _ (List.mem_of_getElem? (i := 55) rfl))) (notFace_of_selects (args := #[]) (mvT hZ (hw _ (List.mem_of_getElem? (i := 57) rfl)))) (mvT hZ (hw _ (List.mem_of_getElem? (i := 57) rfl))) (mvT hZ (hw _ (List.mem_of_getElem? (i := 56) rfl))) (by decide) (backOf (W := 0) (rm9 l Z a0 hw [] 1 b60 ll lf cf cl a4 b4f (own_wipe d4 (x4 - x2) x2 (own_undo a4 b4f y4 c4)) d4 x2 0 x2 T67.heap n0 (by decide) H67) hZ (hw _ (List.mem_of_getElem? (i := 58) rfl)) (hw _ (List.mem_of_getElem? (i := 12) rfl)) (by decide) (by decide)) q69a q69c (g := (mkF m 192 #[.val (.int p1), .val (.int p2), .val (.int p3), .val (.int p4), .val (.int p5), .val (.int (Int32.ofNat i1)), .val (.int (Int32.ofNat i2)), .val (.int (Int32.ofNat i3)), .val (.int (Int32.ofNat i4)), .val (.int v1), .val (.int v2), .val (.int v3), .val (.int v4), .val (.ref b52), .val (.ref b60)] [(.int (1 : Int32)), (.ref b60)])) rfl (by rw [hml]; rfl) (Steps.refl _) (argsL := [(.int (1 : Int32))]) (rest := []) (lenOf pd_2 rfl) rfl (by show 2 * 0 + _ ≤ _; exact Nat.le_of_eq rfl) (hb hby at_192) (fun _ _ => ⟨rfl, ehf0, (by decide : 0 + 0 + 0 + 0 + 0 + 1 + 0 + 0 + 1 + 4 + 0 + 0 + 0 + 0 + 0 + 0 + 0 + 0 ≤ _), (by decide : 0 + 0 + 0 + 0 + 0 + 3 + 0 + 0 + 7 + 38 + 0 + 0 + 0 + 0 + 0 + 0 + 0 + 0 ≤ _)⟩)
  dsimp only [Pt.U, Pt.locs, Pt.cells, Pt.slots] at X69 l69 y69 z69 st69 hQ69
  replace X69 := own_stand X69 l69 y69 z69
  clear l69 y69 z69
  obtain ⟨rfl, N69, hh69⟩ := hQ69
  refine own_st (g1 := (mkF m 195 #[.val (.int p1), .val (.int p2), .val (.int p3), .val (.int p4), .val (.int p5), .val (.int (Int32.ofNat i1)), .val (.int (Int32.ofNat i2)), .val (.int (Int32.ofNat i3)), .val (.int (Int32.ofNat i4)), .val (.int v1), .val (.int v2), .val (.int v3), .val (.int v4), .val (.ref b52), .val (.ref b60)] [(.int ((own_wipe d4 (x4 - x2) x2 (own_undo a4 b4f y4 c4)) 1))])) (fun zt zk => st69.trans zk) ?_
  have ehf1 : T69.heap = T67.heap := hh69
  have Gf1 := Fr.app Gf0 N69
  refine own_st (g1 := (mkF m 197 #[.val (.int p1), .val (.int p2), .val (.int p3), .val (.int p4), .val (.int p5), .val (.int (Int32.ofNat i1)), .val (.int (Int32.ofNat i2)), .val (.int (Int32.ofNat i3)), .val (.int (Int32.ofNat i4)), .val (.int v1), .val (.int v2), .val (.int v3), .val (.int v4), .val (.ref b52), .val (.ref b60)] [(.ref b52), (.int ((own_wipe d4 (x4 - x2) x2 (own_undo a4 b4f y4 c4)) 1))])) (fun zt zk => XS.aload X69.here hx rfl (hb hby at_195) rfl rfl zk) ?_
  refine own_st (g1 := (mkF m 198 #[.val (.int p1), .val (.int p2), .val (.int p3), .val (.int p4), .val (.int p5), .val (.int (Int32.ofNat i1)), .val (.int (Int32.ofNat i2)), .val (.int (Int32.ofNat i3)), .val (.int (Int32.ofNat i4)), .val (.int v1), .val (.int v2), .val (.int v3), .val (.int v4), .val (.ref b52), .val (.ref b60)] [(.int (1 : Int32)), (.ref b52), (.int ((own_wipe d4 (x4 - x2) x2 (own_undo a4 b4f y4 c4)) 1))])) (fun zt zk => XS.iconst X69.here hx rfl (hb hby at_197) zk) ?_
  refine own_st (g1 := (mkF m 199 #[.val (.int p1), .val (.int p2), .val (.int p3), .val (.int p4), .val (.int p5), .val (.int (Int32.ofNat i1)), .val (.int (Int32.ofNat i2)), .val (.int (Int32.ofNat i3)), .val (.int (Int32.ofNat i4)), .val (.int v1), .val (.int v2), .val (.int v3), .val (.int v4), .val (.ref b52), .val (.ref b60)] [(.int (e2f 1)), (.int ((own_wipe d4 (x4 - x2) x2 (own_undo a4 b4f y4 c4)) 1))])) (own_ild X69 hx hZ ehf1 Yr (j := 1) (v := (.int (e2f 1))) rfl (by decide) (by decide) rfl (g := (mkF m 198 #[.val (.int p1), .val (.int p2), .val (.int p3), .val (.int p4), .val (.int p5), .val (.int (Int32.ofNat i1)), .val (.int (Int32.ofNat i2)), .val (.int (Int32.ofNat i3)), .val (.int (Int32.ofNat i4)), .val (.int v1), .val (.int v2), .val (.int v3), .val (.int v4), .val (.ref b52), .val (.ref b60)] [(.int (1 : Int32)), (.ref b52), (.int ((own_wipe d4 (x4 - x2) x2 (own_undo a4 b4f y4 c4)) 1))])) rfl rfl (hb hby at_198)) ?_
  refine own_st (g1 := (mkF m 202 #[.val (.int p1), .val (.int p2), .val (.int p3), .val (.int p4), .val (.int p5), .val (.int (Int32.ofNat i1)), .val (.int (Int32.ofNat i2)), .val (.int (Int32.ofNat i3)), .val (.int (Int32.ofNat i4)), .val (.int v1), .val (.int v2), .val (.int v3), .val (.int v4), .val (.ref b52), .val (.ref b60)] [])) (fun zt zk => XS.icmpNo X69.here hx rfl (hb hby at_199) rfl (teq (hfin 1 (by decide))).2 zk) ?_
  refine own_st (g1 := (mkF m 204 #[.val (.int p1), .val (.int p2), .val (.int p3), .val (.int p4), .val (.int p5), .val (.int (Int32.ofNat i1)), .val (.int (Int32.ofNat i2)), .val (.int (Int32.ofNat i3)), .val (.int (Int32.ofNat i4)), .val (.int v1), .val (.int v2), .val (.int v3), .val (.int v4), .val (.ref b52), .val (.ref b60)] [(.ref b60)])) (fun zt zk => XS.aload X69.here hx rfl (hb hby at_202) rfl rfl zk) ?_
  refine own_st (g1 := (mkF m 205 #[.val (.int p1), .val (.int p2), .val (.int p3), .val (.int p4), .val (.int p5), .val (.int (Int32.ofNat i1)), .val (.int (Int32.ofNat i2)), .val (.int (Int32.ofNat i3)), .val (.int (Int32.ofNat i4)), .val (.int v1), .val (.int v2), .val (.int v3), .val (.int v4), .val (.ref b52), .val (.ref b60)] [(.int (2 : Int32)), (.ref b60)])) (fun zt zk => XS.iconst X69.here hx rfl (hb hby at_204) zk) ?_
  obtain ⟨cq70, kq70, q70a, q70b, q70c⟩ := isOf hZ ehf1 H67.2.2.1
  obtain ⟨_, _, ⟨T70, L70, k70, n70⟩, -, X70, ⟨Lc70, hQ70, l70, y70, z70⟩, st70⟩ := X69.virtualBack hx (y := (⟨"com/example/rackweave/rackweave/core/ChangeMarks", "changedFrom", "(I)I"⟩ : MethodName)) (z := (⟨"com/example/rackweave/rackweave/core/ChangeMarks", "changedFrom", "(I)I"⟩ : MethodName)) hown (mvT hZ (hw _ (List.mem_of_getElem? (i := 54) rfl))) (mvT hZ (hw _ (List.mem_of_getElem? (i := 55) rfl))) (notFace_of_selects (args := #[]) (mvT hZ (hw _ (List.mem_of_getElem? (i := 57) rfl)))) (mvT hZ (hw _ (List.mem_of_getElem? (i := 57) rfl))) (mvT hZ (hw _ (List.mem_of_getElem? (i := 56) rfl))) (by decide) (backOf (W := 0) (rm9 l Z a0 hw [] 2 b60 ll lf cf cl a4 b4f (own_wipe d4 (x4 - x2) x2 (own_undo a4 b4f y4 c4)) d4 x2 0 x2 T67.heap n0 (by decide) H67) hZ (hw _ (List.mem_of_getElem? (i := 58) rfl)) (hw _ (List.mem_of_getElem? (i := 12) rfl)) (by decide) (by decide)) q70a q70c (g := (mkF m 205 #[.val (.int p1), .val (.int p2), .val (.int p3), .val (.int p4), .val (.int p5), .val (.int (Int32.ofNat i1)), .val (.int (Int32.ofNat i2)), .val (.int (Int32.ofNat i3)), .val (.int (Int32.ofNat i4)), .val (.int v1), .val (.int v2), .val (.int v3), .val (.int v4), .val (.ref b52), .val (.ref b60)] [(.int (2 : Int32)), (.ref b60)])) rfl (by rw [hml]; rfl) (Steps.refl _) (argsL := [(.int (2 : Int32))]) (rest := []) (lenOf pd_2 rfl) rfl (by show 2 * 0 + _ ≤ _; exact Nat.le_of_eq rfl) (hb hby at_205) (fun _ _ => ⟨rfl, ehf1, (by decide : 0 + 0 + 0 + 0 + 0 + 1 + 0 + 0 + 1 + 4 + 0 + 0 + 0 + 0 + 0 + 0 + 0 + 0 + 0 ≤ _), (by decide : 0 + 0 + 0 + 0 + 0 + 3 + 0 + 0 + 7 + 38 + 0 + 0 + 0 + 0 + 0 + 0 + 0 + 0 + 0 ≤ _)⟩)
  dsimp only [Pt.U, Pt.locs, Pt.cells, Pt.slots] at X70 l70 y70 z70 st70 hQ70
  replace X70 := own_stand X70 l70 y70 z70
  clear l70 y70 z70
  obtain ⟨rfl, N70, hh70⟩ := hQ70
  refine own_st (g1 := (mkF m 208 #[.val (.int p1), .val (.int p2), .val (.int p3), .val (.int p4), .val (.int p5), .val (.int (Int32.ofNat i1)), .val (.int (Int32.ofNat i2)), .val (.int (Int32.ofNat i3)), .val (.int (Int32.ofNat i4)), .val (.int v1), .val (.int v2), .val (.int v3), .val (.int v4), .val (.ref b52), .val (.ref b60)] [(.int ((own_wipe d4 (x4 - x2) x2 (own_undo a4 b4f y4 c4)) 2))])) (fun zt zk => st70.trans zk) ?_
  have ehf2 : T70.heap = T67.heap := hh70
  have Gf2 := Fr.app Gf1 N70
  refine own_st (g1 := (mkF m 210 #[.val (.int p1), .val (.int p2), .val (.int p3), .val (.int p4), .val (.int p5), .val (.int (Int32.ofNat i1)), .val (.int (Int32.ofNat i2)), .val (.int (Int32.ofNat i3)), .val (.int (Int32.ofNat i4)), .val (.int v1), .val (.int v2), .val (.int v3), .val (.int v4), .val (.ref b52), .val (.ref b60)] [(.ref b52), (.int ((own_wipe d4 (x4 - x2) x2 (own_undo a4 b4f y4 c4)) 2))])) (fun zt zk => XS.aload X70.here hx rfl (hb hby at_208) rfl rfl zk) ?_
  refine own_st (g1 := (mkF m 211 #[.val (.int p1), .val (.int p2), .val (.int p3), .val (.int p4), .val (.int p5), .val (.int (Int32.ofNat i1)), .val (.int (Int32.ofNat i2)), .val (.int (Int32.ofNat i3)), .val (.int (Int32.ofNat i4)), .val (.int v1), .val (.int v2), .val (.int v3), .val (.int v4), .val (.ref b52), .val (.ref b60)] [(.int (2 : Int32)), (.ref b52), (.int ((own_wipe d4 (x4 - x2) x2 (own_undo a4 b4f y4 c4)) 2))])) (fun zt zk => XS.iconst X70.here hx rfl (hb hby at_210) zk) ?_
  refine own_st (g1 := (mkF m 212 #[.val (.int p1), .val (.int p2), .val (.int p3), .val (.int p4), .val (.int p5), .val (.int (Int32.ofNat i1)), .val (.int (Int32.ofNat i2)), .val (.int (Int32.ofNat i3)), .val (.int (Int32.ofNat i4)), .val (.int v1), .val (.int v2), .val (.int v3), .val (.int v4), .val (.ref b52), .val (.ref b60)] [(.int (e2f 2)), (.int ((own_wipe d4 (x4 - x2) x2 (own_undo a4 b4f y4 c4)) 2))])) (own_ild X70 hx hZ ehf2 Yr (j := 2) (v := (.int (e2f 2))) rfl (by decide) (by decide) rfl (g := (mkF m 211 #[.val (.int p1), .val (.int p2), .val (.int p3), .val (.int p4), .val (.int p5), .val (.int (Int32.ofNat i1)), .val (.int (Int32.ofNat i2)), .val (.int (Int32.ofNat i3)), .val (.int (Int32.ofNat i4)), .val (.int v1), .val (.int v2), .val (.int v3), .val (.int v4), .val (.ref b52), .val (.ref b60)] [(.int (2 : Int32)), (.ref b52), (.int ((own_wipe d4 (x4 - x2) x2 (own_undo a4 b4f y4 c4)) 2))])) rfl rfl (hb hby at_211)) ?_
  refine own_st (g1 := (mkF m 215 #[.val (.int p1), .val (.int p2), .val (.int p3), .val (.int p4), .val (.int p5), .val (.int (Int32.ofNat i1)), .val (.int (Int32.ofNat i2)), .val (.int (Int32.ofNat i3)), .val (.int (Int32.ofNat i4)), .val (.int v1), .val (.int v2), .val (.int v3), .val (.int v4), .val (.ref b52), .val (.ref b60)] [])) (fun zt zk => XS.icmpNo X70.here hx rfl (hb hby at_212) rfl (teq (hfin 2 (by decide))).2 zk) ?_
  refine own_st (g1 := (mkF m 216 #[.val (.int p1), .val (.int p2), .val (.int p3), .val (.int p4), .val (.int p5), .val (.int (Int32.ofNat i1)), .val (.int (Int32.ofNat i2)), .val (.int (Int32.ofNat i3)), .val (.int (Int32.ofNat i4)), .val (.int v1), .val (.int v2), .val (.int v3), .val (.int v4), .val (.ref b52), .val (.ref b60)] [(.int (1 : Int32))])) (fun zt zk => XS.iconst X70.here hx rfl (hb hby at_215) zk) ?_
  refine own_st (g1 := (mkF m 220 #[.val (.int p1), .val (.int p2), .val (.int p3), .val (.int p4), .val (.int p5), .val (.int (Int32.ofNat i1)), .val (.int (Int32.ofNat i2)), .val (.int (Int32.ofNat i3)), .val (.int (Int32.ofNat i4)), .val (.int v1), .val (.int v2), .val (.int v3), .val (.int v4), .val (.ref b52), .val (.ref b60)] [(.int (1 : Int32))])) (fun zt zk => XS.goto X70.here hx rfl (pc0 := 216) (pc' := 220) rfl (hb hby at_216) (by decide) (by decide) zk) ?_
  exact own_here X70 ⟨220, _, _, rfl, (hb hby at_220), rfl, (by decide), (by decide), (by rw [ehf2]; exact ⟨rfl, Gf2⟩)⟩
set_option maxRecDepth 65536 in
set_option maxHeartbeats 40000000 in
theorem comes_1 {Post : Tables → Env → Array Value → State → Outcome → State → Prop} (hpost : ∀ tb e args s v u, (limb_1_1.after args s (.returned v) u = true ∧ limb_1_2.after args s (.returned v) u = true ∧ True) → FrameEnd s (.returned v) u (Jvm.fieldLocs frame_1_writes args s ++ Jvm.arrayLocs frame_1_arrays args s ++ Jvm.staticLocs frame_1_statics s) 24 192 → Post tb e args s (.returned v) u) :
    ArmFor flags0 classFile x code maxLocals ret World_1 tables_1 room_1 Calls_1 rest_1 Pre_1 Post := by
  intro l hfl _ _ p e ha hc hk s m args below hf hA hF happ hP
  obtain ⟨hcalls, hrest, hpre⟩ := hP
  obtain ⟨-, -, -, hnamed, -, -, -, hat⟩ := (Spec.applies_iff hf).mp happ
  obtain ⟨hg, hn⟩ := and_e (Cond.before_iff.mp (show (Jvm.Cond.and given_1 narrow_1).before args s = true from hpre))
  obtain ⟨gc, g0⟩ := and_e hg
  obtain ⟨a0, g1⟩ := and_e g0
  obtain ⟨a1, g2⟩ := and_e g1
  obtain ⟨a2, g3⟩ := and_e g2
  obtain ⟨a3, g4⟩ := and_e g3
  have a4 := g4
  obtain ⟨w0, w1, w2, w3, w4, rfl⟩ : ∃ w0 w1 w2 w3 w4 : Value, args = #[w0, w1, w2, w3, w4] := by
    have hs : args.size = 5 := by simpa [Cond.value, given_1] using gc
    obtain ⟨L⟩ := args
    match L, hs with
    | [w0, w1, w2, w3, w4], _ => exact ⟨w0, w1, w2, w3, w4, rfl⟩
  have hw := fun d (hd : d ∈ tables_1) => atoms_spec (ws := Jvm.Cond.code x code maxLocals ret :: tables_1) hat d (List.mem_cons_of_mem _ hd)
  obtain ⟨i0, ei0⟩ := is_v a0
  obtain rfl : w0 = (.int i0) := Option.some.inj ei0
  obtain ⟨i1, ei1⟩ := is_v a1
  obtain rfl : w1 = (.int i1) := Option.some.inj ei1
  obtain ⟨i2, ei2⟩ := is_v a2
  obtain rfl : w2 = (.int i2) := Option.some.inj ei2
  obtain ⟨i3, ei3⟩ := is_v a3
  obtain rfl : w3 = (.int i3) := Option.some.inj ei3
  obtain ⟨i4, ei4⟩ := is_v a4
  obtain rfl : w4 = (.int i4) := Option.some.inj ei4
  obtain ⟨n, o, h1, h2, h3, _, L, rfl, ⟨rfl, N⟩, hq⟩ := rm0 l s _ hw tables_1 i0 i1 i2 i3 i4 s.heap s.heap.size (Nat.le_refl _) p e ha hc hk s m _ below hf ((Spec.applies_iff_loose hf).mp happ).1 ⟨rfl, State.Warmed39.refl s, rfl⟩ trivial
  refine ⟨n, _, h1, h2, h3, hpost _ _ _ _ _ _ ⟨Cond.after_iff.mpr rfl, Cond.after_iff.mpr (eq_i res_at (Term.int_eval (1)) rfl), trivial⟩ ⟨hq.1, hq.2.1, (hq.2.2.sift fun y hy => Or.inr (N y hy)).mono (by decide) (by decide)⟩⟩
theorem main_1_1 : Claimed_1_1 := comes_1 fun _ _ _ _ _ _ h hF => ⟨h.1, hF⟩
theorem main_1_2 : Claimed_1_2 := comes_1 fun _ _ _ _ _ _ h hF => ⟨h.2.1, hF⟩
end Jvm.Pilot.@@N@@
namespace Jvm.Pilot.@@N@@
open Jvm Jvm.ClassFile Sem Op Lib Jvm.Free Jvm.Stand Jvm.Pilot.@@N@@.Jvm.D
/-! MADE BY PROGRAM (witnessworld.py) out of the Statement's table words and the real class files: 11 classes; the members and pool entries that the words name. The judged class is class 1, her method 2. -/
namespace start1
open Jvm.ClassFile
def u (s : String) : CpInfo := .utf8 (stringToUtf16 s)
/-- a pool by its gaps: so many unusable entries, then the entry; so many at the end -/
def gap : Nat → List CpInfo → List CpInfo
  | 0, r => r
  | n + 1, r => .unusable :: gap n r
def poolList (es : List (Nat × CpInfo)) (last : Nat) : List CpInfo := es.foldr (fun e r => gap e.1 (e.2 :: r)) (gap last [])
def pool (es : List (Nat × CpInfo)) (last : Nat) : Array CpInfo := ⟨poolList es last⟩
def fileOf (pool : Array CpInfo) (this : Nat) (attrs : Array Attribute := #[]) (ms : Array MethodInfo := #[]) (fl : Nat := 33) (sup : Nat := 0) (ifs : Array Nat := #[]) (fds : Array FieldInfo := #[]) : ClassFile where
  minorVersion := 0
  majorVersion := 65
  constantPool := pool
  accessFlags := fl
  thisClass := this
  superClass := sup
  interfaces := ifs
  fields := fds
  methods := ms
  attributes := attrs
def plain (name : String) (sup : Option ClassId) : Class where
  name := name
  kind := .ordinary
  loader := none
  accessFlags := 33
  super := sup
  interfaces := #[]
  cf := none
  fields := #[]
  methods := #[]
  instanceTypes := #[]
  staticTypes := #[]
  resolved := #[]
  callSites := []
  init := .initialized
  statics := none
  mirror := none

def pool0 : Array CpInfo := pool [(5, u "<init>"), (0, u "()V"), (1, .class_ 10), (1, u "java/lang/Object")] 113

def k0c0 : Code := { maxStack := 0, maxLocals := 1, code := object_method_1_code, exceptionTable := #[], attributes := #[] }
def k0m0 : Method := { name := "<init>", desc := "()V", sig := { parameters := [], returnType := none }, accessFlags := 1, code := some k0c0 }
/-- java/lang/Object -/
def k0 : Class := { plain "java/lang/Object" none with
  accessFlags := 33
  interfaces := #[]
  cf := some (fileOf pool0 8 #[] #[{ accessFlags := 1, nameIndex := 5, descriptorIndex := 6, attributes := #[] }] 33 0 #[] #[])
  fields := #[]
  methods := #[k0m0]
  instanceTypes := #[]
  staticTypes := #[]
  resolved := Array.replicate 124 none
  statics := none }

def pool1 : Array CpInfo := pool [(2, .class_ 4), (1, u "java/lang/Object"), (0, u "<init>"), (0, u "()V"), (2, .integer 2147483647), (0, .methodref 11 12), (0, .class_ 13), (0, .nameAndType 14 15), (0, u "com/example/rackweave/rackweave/core/ChangeMarksRestorePinLaw"), (0, u "rank"), (0, u "(I)I"), (0, .methodref 17 18), (0, .class_ 19), (0, .nameAndType 20 21), (0, u "java/lang/Math"), (0, u "min"), (0, u "(II)I"), (0, .class_ 23), (0, u "com/example/rackweave/rackweave/core/ChangeMarks"), (0, .methodref 22 25), (0, .nameAndType 5 26), (0, u "(I)V"), (0, .methodref 22 28), (0, .nameAndType 29 30), (0, u "mark"), (0, u "(II)V"), (0, .methodref 22 32), (0, .nameAndType 33 6), (0, u "keep"), (0, .methodref 22 35), (0, .nameAndType 36 6), (0, u "restore"), (0, .methodref 22 38), (0, .nameAndType 39 15), (0, u "changedFrom"), (3, u "law"), (0, u "(IIIII)Z")] 4

def k1m0 : Method := { name := "<init>", desc := "()V", sig := { parameters := [], returnType := none }, accessFlags := 1, code := none }
def k1c1 : Code := { maxStack := 2, maxLocals := 1, code := method_2_code, exceptionTable := #[], attributes := #[] }
def k1m1 : Method := { name := "rank", desc := "(I)I", sig := { parameters := [.int], returnType := some .int }, accessFlags := 10, code := some k1c1 }
def k1c2 : Code := { maxStack := 4, maxLocals := 15, code := code, exceptionTable := #[], attributes := #[] }
def k1m2 : Method := { name := "law", desc := "(IIIII)Z", sig := { parameters := [.int, .int, .int, .int, .int], returnType := some .boolean }, accessFlags := 9, code := some k1c2 }
/-- com/example/rackweave/rackweave/core/ChangeMarksRestorePinLaw -/
def k1 : Class := { plain "com/example/rackweave/rackweave/core/ChangeMarksRestorePinLaw" (some 0) with
  accessFlags := 49
  interfaces := #[]
  cf := some (fileOf pool1 11 #[] #[{ accessFlags := 1, nameIndex := 5, descriptorIndex := 6, attributes := #[] }, { accessFlags := 10, nameIndex := 14, descriptorIndex := 15, attributes := #[] }, { accessFlags := 9, nameIndex := 43, descriptorIndex := 44, attributes := #[] }] 49 2 #[] #[])
  fields := #[]
  methods := #[k1m0, k1m1, k1m2]
  instanceTypes := #[]
  staticTypes := #[]
  resolved := Array.replicate 49 none
  statics := none }

def pool2 : Array CpInfo := pool [(1, .class_ 2), (0, u "java/lang/Math"), (1, .class_ 6), (1, u "java/lang/Object"), (0, u "<init>"), (0, u "()V"), (89, .class_ 100), (1, u "java/lang/Math$RandomNumberGeneratorHolder"), (71, u "negativeZeroFloatBits"), (0, u "J"), (2, u "negativeZeroDoubleBits"), (24, u "min"), (43, u "$assertionsDisabled"), (0, u "Z"), (88, u "(II)I"), (2, u "twoToTheDoubleScaleDown"), (0, u "D"), (4, u "twoToTheDoubleScaleUp"), (9, u "E"), (3, u "PI"), (2, u "TAU"), (2, u "DEGREES_TO_RADIANS"), (0, u "RADIANS_TO_DEGREES")] 94

def k2m0 : Method := { name := "<init>", desc := "()V", sig := { parameters := [], returnType := none }, accessFlags := 2, code := none }
def k2c1 : Code := { maxStack := 2, maxLocals := 2, code := jdk_29_method_69_code, exceptionTable := #[], attributes := #[] }
def k2m1 : Method := { name := "min", desc := "(II)I", sig := { parameters := [.int, .int], returnType := some .int }, accessFlags := 9, code := some k2c1 }
/-- java/lang/Math -/
def k2 : Class := { plain "java/lang/Math" (some 0) with
  accessFlags := 49
  interfaces := #[]
  cf := some (fileOf pool2 1 #[.nestMembers #[98]] #[{ accessFlags := 2, nameIndex := 7, descriptorIndex := 8, attributes := #[] }, { accessFlags := 9, nameIndex := 201, descriptorIndex := 335, attributes := #[] }] 49 4 #[] #[{ accessFlags := 25, nameIndex := 354, descriptorIndex := 339, attributes := #[] }, { accessFlags := 25, nameIndex := 358, descriptorIndex := 339, attributes := #[] }, { accessFlags := 25, nameIndex := 361, descriptorIndex := 339, attributes := #[] }, { accessFlags := 26, nameIndex := 364, descriptorIndex := 339, attributes := #[] }, { accessFlags := 26, nameIndex := 365, descriptorIndex := 339, attributes := #[] }, { accessFlags := 26, nameIndex := 172, descriptorIndex := 173, attributes := #[] }, { accessFlags := 26, nameIndex := 176, descriptorIndex := 173, attributes := #[] }, { accessFlags := 8, nameIndex := 344, descriptorIndex := 339, attributes := #[] }, { accessFlags := 8, nameIndex := 338, descriptorIndex := 339, attributes := #[] }, { accessFlags := 4120, nameIndex := 245, descriptorIndex := 246, attributes := #[] }])
  fields := #[{ name := "E", type := .double, accessFlags := 25, slot := 0, constantValue := 0 }, { name := "PI", type := .double, accessFlags := 25, slot := 1, constantValue := 0 }, { name := "TAU", type := .double, accessFlags := 25, slot := 2, constantValue := 0 }, { name := "DEGREES_TO_RADIANS", type := .double, accessFlags := 26, slot := 3, constantValue := 0 }, { name := "RADIANS_TO_DEGREES", type := .double, accessFlags := 26, slot := 4, constantValue := 0 }, { name := "negativeZeroFloatBits", type := .long, accessFlags := 26, slot := 5, constantValue := 0 }, { name := "negativeZeroDoubleBits", type := .long, accessFlags := 26, slot := 6, constantValue := 0 }, { name := "twoToTheDoubleScaleUp", type := .double, accessFlags := 8, slot := 7, constantValue := 0 }, { name := "twoToTheDoubleScaleDown", type := .double, accessFlags := 8, slot := 8, constantValue := 0 }, { name := "$assertionsDisabled", type := .boolean, accessFlags := 4120, slot := 9, constantValue := 0 }]
  methods := #[k2m0, k2m1]
  instanceTypes := #[]
  staticTypes := #[.double, .double, .double, .double, .double, .long, .long, .double, .double, .boolean]
  resolved := Array.replicate 460 none
  statics := none }

def pool3 : Array CpInfo := pool [(1, .methodref 2 3), (0, .class_ 4), (0, .nameAndType 5 6), (0, u "java/lang/Object"), (0, u "<init>"), (0, u "()V"), (0, .fieldref 8 9), (0, .class_ 10), (0, .nameAndType 11 12), (0, u "com/example/rackweave/rackweave/core/ChangeMarks"), (0, u "loweredLinks"), (0, u "[I"), (0, .fieldref 8 14), (0, .nameAndType 15 12), (0, u "loweredFrom"), (0, .fieldref 8 17), (0, .nameAndType 18 12), (0, u "changedFrom"), (2, .integer 2147483647), (0, .methodref 23 24), (0, .class_ 25), (0, .nameAndType 26 27), (0, u "java/util/Arrays"), (0, u "fill"), (0, u "([II)V"), (0, .fieldref 8 29), (0, .nameAndType 30 12), (0, u "changedLinks"), (0, .fieldref 8 32), (0, .nameAndType 33 34), (0, u "changedCount"), (0, u "I"), (0, .fieldref 8 36), (0, .nameAndType 37 34), (0, u "loweredCount"), (4, .methodref 43 44), (0, .class_ 45), (0, .nameAndType 46 47), (0, u "java/lang/Math"), (0, u "min"), (0, u "(II)I"), (0, .fieldref 8 49), (0, .nameAndType 50 34), (0, u "keptCount"), (0, u "(I)V"), (2, u "mark"), (0, u "(II)V"), (1, u "(I)I"), (0, u "keep"), (0, u "restore")] 3

def k3c0 : Code := { maxStack := 2, maxLocals := 2, code := prog_16_method_1_code, exceptionTable := #[], attributes := #[] }
def k3m0 : Method := { name := "<init>", desc := "(I)V", sig := { parameters := [.int], returnType := none }, accessFlags := 0, code := some k3c0 }
def k3c1 : Code := { maxStack := 5, maxLocals := 4, code := prog_16_method_2_code, exceptionTable := #[], attributes := #[] }
def k3m1 : Method := { name := "mark", desc := "(II)V", sig := { parameters := [.int, .int], returnType := none }, accessFlags := 0, code := some k3c1 }
def k3c2 : Code := { maxStack := 2, maxLocals := 2, code := prog_16_method_3_code, exceptionTable := #[], attributes := #[] }
def k3m2 : Method := { name := "changedFrom", desc := "(I)I", sig := { parameters := [.int], returnType := some .int }, accessFlags := 0, code := some k3c2 }
def k3c3 : Code := { maxStack := 2, maxLocals := 1, code := prog_16_method_4_code, exceptionTable := #[], attributes := #[] }
def k3m3 : Method := { name := "keep", desc := "()V", sig := { parameters := [], returnType := none }, accessFlags := 0, code := some k3c3 }
def k3c4 : Code := { maxStack := 4, maxLocals := 2, code := prog_16_method_5_code, exceptionTable := #[], attributes := #[] }
def k3m4 : Method := { name := "restore", desc := "()V", sig := { parameters := [], returnType := none }, accessFlags := 0, code := some k3c4 }
/-- com/example/rackweave/rackweave/core/ChangeMarks -/
def k3 : Class := { plain "com/example/rackweave/rackweave/core/ChangeMarks" (some 0) with
  accessFlags := 48
  interfaces := #[]
  cf := some (fileOf pool3 8 #[] #[{ accessFlags := 0, nameIndex := 5, descriptorIndex := 51, attributes := #[] }, { accessFlags := 0, nameIndex := 54, descriptorIndex := 55, attributes := #[] }, { accessFlags := 0, nameIndex := 18, descriptorIndex := 57, attributes := #[] }, { accessFlags := 0, nameIndex := 58, descriptorIndex := 6, attributes := #[] }, { accessFlags := 0, nameIndex := 59, descriptorIndex := 6, attributes := #[] }] 48 2 #[] #[{ accessFlags := 18, nameIndex := 18, descriptorIndex := 12, attributes := #[] }, { accessFlags := 18, nameIndex := 30, descriptorIndex := 12, attributes := #[] }, { accessFlags := 2, nameIndex := 33, descriptorIndex := 34, attributes := #[] }, { accessFlags := 2, nameIndex := 50, descriptorIndex := 34, attributes := #[] }, { accessFlags := 2, nameIndex := 11, descriptorIndex := 12, attributes := #[] }, { accessFlags := 2, nameIndex := 15, descriptorIndex := 12, attributes := #[] }, { accessFlags := 2, nameIndex := 37, descriptorIndex := 34, attributes := #[] }])
  fields := #[{ name := "changedFrom", type := (.array .int), accessFlags := 18, slot := 0, constantValue := 0 }, { name := "changedLinks", type := (.array .int), accessFlags := 18, slot := 1, constantValue := 0 }, { name := "changedCount", type := .int, accessFlags := 2, slot := 2, constantValue := 0 }, { name := "keptCount", type := .int, accessFlags := 2, slot := 3, constantValue := 0 }, { name := "loweredLinks", type := (.array .int), accessFlags := 2, slot := 4, constantValue := 0 }, { name := "loweredFrom", type := (.array .int), accessFlags := 2, slot := 5, constantValue := 0 }, { name := "loweredCount", type := .int, accessFlags := 2, slot := 6, constantValue := 0 }]
  methods := #[k3m0, k3m1, k3m2, k3m3, k3m4]
  instanceTypes := #[(.array .int), (.array .int), .int, .int, (.array .int), (.array .int), .int]
  staticTypes := #[]
  resolved := Array.replicate 63 none
  statics := none }

def pool4 : Array CpInfo := pool [(2, .class_ 4), (1, u "java/lang/Object"), (0, u "<init>"), (0, u "()V"), (7, .class_ 16), (1, u "java/util/Arrays"), (57, .class_ 76), (1, u "java/util/Arrays$NaturalOrder"), (36, .class_ 115), (1, u "java/util/Arrays$LegacyMergeSort"), (1, u "Z"), (257, .class_ 376), (0, u "java/util/Arrays$ArrayList"), (68, u "$assertionsDisabled"), (269, u "MIN_ARRAY_SORT_GRAN"), (0, u "I"), (2, u "INSERTIONSORT_THRESHOLD"), (120, u "fill"), (4, u "([II)V"), (129, .class_ 976), (0, u "java/util/Arrays$ArrayItr")] 52

def k4m0 : Method := { name := "<init>", desc := "()V", sig := { parameters := [], returnType := none }, accessFlags := 2, code := none }
def k4c1 : Code := { maxStack := 3, maxLocals := 4, code := jdk_65_method_103_code, exceptionTable := #[], attributes := #[] }
def k4m1 : Method := { name := "fill", desc := "([II)V", sig := { parameters := [(.array .int), .int], returnType := none }, accessFlags := 9, code := some k4c1 }
/-- java/util/Arrays -/
def k4 : Class := { plain "java/util/Arrays" (some 0) with
  accessFlags := 49
  interfaces := #[]
  cf := some (fileOf pool4 14 #[.nestMembers #[975, 375, 113, 74]] #[{ accessFlags := 2, nameIndex := 5, descriptorIndex := 6, attributes := #[] }, { accessFlags := 9, nameIndex := 840, descriptorIndex := 845, attributes := #[] }] 49 2 #[] #[{ accessFlags := 26, nameIndex := 715, descriptorIndex := 716, attributes := #[] }, { accessFlags := 26, nameIndex := 719, descriptorIndex := 716, attributes := #[] }, { accessFlags := 4120, nameIndex := 445, descriptorIndex := 117, attributes := #[] }])
  fields := #[{ name := "MIN_ARRAY_SORT_GRAN", type := .int, accessFlags := 26, slot := 0, constantValue := 0 }, { name := "INSERTIONSORT_THRESHOLD", type := .int, accessFlags := 26, slot := 1, constantValue := 0 }, { name := "$assertionsDisabled", type := .boolean, accessFlags := 4120, slot := 2, constantValue := 0 }]
  methods := #[k4m0, k4m1]
  instanceTypes := #[]
  staticTypes := #[.int, .int, .boolean]
  resolved := Array.replicate 1029 none
  statics := none }

def pool5 : Array CpInfo := pool [(1, u "java/lang/Cloneable"), (0, .class_ 1), (0, u "java/lang/Object"), (0, .class_ 3)] 3

/-- java/lang/Cloneable -/
def k5 : Class := { plain "java/lang/Cloneable" (some 0) with
  accessFlags := 1537
  interfaces := #[]
  cf := some (fileOf pool5 2 #[] #[] 1537 4 #[] #[])
  fields := #[]
  methods := #[]
  instanceTypes := #[]
  staticTypes := #[]
  resolved := Array.replicate 8 none
  statics := none }

def pool6 : Array CpInfo := pool [(1, u "java/io/Serializable"), (0, .class_ 1), (0, u "java/lang/Object"), (0, .class_ 3)] 3

/-- java/io/Serializable -/
def k6 : Class := { plain "java/io/Serializable" (some 0) with
  accessFlags := 1537
  interfaces := #[]
  cf := some (fileOf pool6 2 #[] #[] 1537 4 #[] #[])
  fields := #[]
  methods := #[]
  instanceTypes := #[]
  staticTypes := #[]
  resolved := Array.replicate 8 none
  statics := none }

/-- the primitive byte -/
def k7 : Class := { plain "byte" none with kind := .primitive 'B', accessFlags := 0x411 }
/-- [B -/
def k8 : Class := { plain "[B" (some 0) with kind := .array 7 .byte, interfaces := #[5, 6], accessFlags := 1041 }

/-- the primitive int -/
def k9 : Class := { plain "int" none with kind := .primitive 'I', accessFlags := 0x411 }
/-- [I -/
def k10 : Class := { plain "[I" (some 0) with kind := .array 9 .int, interfaces := #[5, 6], accessFlags := 1041 }

def heap : Heap := #[]
def classes : Array Class := #[k0, k1, k2, k3, k4, k5, k6, k7, k8, k9, k10]
def interned : List (Array UInt16 × Addr) := []
def slotsUsed : Nat := 0
def theMethod : MethodId := ⟨1, 2⟩
def args0 : Array Value := #[.int 5, .int 3, .int 4, .int 1, .int 2]
def aboutOver (below : List Frame) : State where
  vm := { classes := classes, interned := interned.toArray }
  heap := heap
  slotsUsed := slotsUsed
  threads := #[{ frames := .invoking theMethod args0 :: below }]
def below0 : List Frame := [.native { method := ⟨0, 0⟩, args := #[] }]
def about1 : State := aboutOver below0
def p0 : Program := .bare "" "" ""
def e0 : Env := launch0.env 0 0 0
theorem w_frames : about1.frames = Frame.invoking theMethod args0 :: below0 := rfl
set_option maxRecDepth 65536 in
theorem w_args : argsFit about1.vm theMethod args0 = true := by decide +kernel
set_option maxRecDepth 65536 in
theorem w_heap : heapFits about1 = true := by decide +kernel
set_option maxRecDepth 65536 in
theorem w_runnable : about1.curStatus? = some .runnable := by decide +kernel
set_option maxRecDepth 65536 in
theorem w_alone : about1.alone = true := by decide +kernel
set_option maxRecDepth 65536 in
theorem w_named : about1.methodNamed? x = some theMethod := by decide +kernel
set_option maxRecDepth 65536 in
theorem w_hears : about1.hears theMethod below0 = true := by decide +kernel
set_option maxRecDepth 65536 in
theorem w_ripe : about1.ripe theMethod args0 below0 = true := by decide +kernel
theorem w_running : about1.status = .running := rfl
set_option maxRecDepth 65536 in
theorem w_room : about1.hasRoom e0.platform room_1 = true :=
  launch0.hasRoom_least _ room_1 (by decide +kernel) (by decide +kernel) (by decide +kernel) (by decide +kernel) (by decide +kernel) (by decide +kernel)
theorem allAtoms_all (ts : List Jvm.Cond) (a : Array Jvm.Value) (st : Jvm.State) : (allAtoms ts).before a st = ts.all (fun c => c.before a st) := by
  induction ts with
  | nil => rfl
  | cons c t ih =>
    show (Jvm.Cond.and c (allAtoms t)).before a st = _
    rw [Jvm.Cond.before_and, ih, List.all_cons]
def words1 : List Jvm.Cond := Jvm.Cond.code x code maxLocals ret :: tables_1
/-- a 'code' word, met by the world's own term for the bytes: nothing is compared byte by byte -/
theorem code_word {y : MethodName} {bytes : ByteArray} {mx : Nat} {rt : Option FieldType} {a : Array Value} {s : State} {m : MethodId} {meth : Method} {c : Code} (h1 : s.methodNamed? y = some m) (h2 : s.vm.method? m = some meth) (h3 : meth.code = some c) (h4 : c.code = bytes)
    (h5 : (c.maxLocals == mx && c.exceptionTable.isEmpty && decide (c.maxStack ≤ mostOperands) && decide (meth.sig.returnType = rt) && !meth.locks && decide (parseMethodDescriptor y.desc = some meth.sig)) = true) : (Jvm.Cond.code y bytes mx rt).before a s = true := by
  simp only [Bool.and_eq_true, beq_iff_eq, Bool.not_eq_true', decide_eq_true_eq] at h5
  obtain ⟨⟨⟨⟨⟨g1, g2⟩, g3⟩, g4⟩, g5⟩, g6⟩ := h5
  simp [Cond.before, Cond.holds, Cond.value, h1, h2, h3, h4, g1, g2, g3, g4, g5, g6]
def isCode : Jvm.Cond → Bool
  | .code _ _ _ _ => true
  | _ => false
theorem all_split {L : List Jvm.Cond} {P : Jvm.Cond → Bool} (h1 : L.all (fun c => isCode c || P c) = true) (h2 : ∀ c ∈ L.filter isCode, P c = true) : L.all P = true := by
  refine List.all_eq_true.mpr fun c hc => ?_
  have h := List.all_eq_true.mp h1 c hc
  rcases Bool.eq_false_or_eq_true (isCode c) with hi | hi
  · exact h2 c (List.mem_filter.mpr ⟨hc, hi⟩)
  · simpa [hi] using h
set_option maxRecDepth 65536 in
theorem w_c0 : (Jvm.Cond.code x code maxLocals ret).before args0 about1 = true := code_word (m := ⟨1, 2⟩) (meth := k1m2) (c := k1c2) (by decide +kernel) rfl rfl rfl (by decide +kernel)
set_option maxRecDepth 65536 in
theorem w_c1 : (Jvm.Cond.code ({ cls := "com/example/rackweave/rackweave/core/ChangeMarksRestorePinLaw", name := "rank", desc := "(I)I" } : Jvm.MethodName) method_2_code (1 : Nat) (Option.some Jvm.ClassFile.FieldType.int)).before args0 about1 = true := code_word (m := ⟨1, 1⟩) (meth := k1m1) (c := k1c1) (by decide +kernel) rfl rfl rfl (by decide +kernel)
set_option maxRecDepth 65536 in
theorem w_c2 : (Jvm.Cond.code ({ cls := "java/lang/Math", name := "min", desc := "(II)I" } : Jvm.MethodName) jdk_29_method_69_code (2 : Nat) (Option.some Jvm.ClassFile.FieldType.int)).before args0 about1 = true := code_word (m := ⟨2, 1⟩) (meth := k2m1) (c := k2c1) (by decide +kernel) rfl rfl rfl (by decide +kernel)
set_option maxRecDepth 65536 in
theorem w_c3 : (Jvm.Cond.code ({ cls := "com/example/rackweave/rackweave/core/ChangeMarks", name := "<init>", desc := "(I)V" } : Jvm.MethodName) prog_16_method_1_code (2 : Nat) (Option.none : Option Jvm.ClassFile.FieldType)).before args0 about1 = true := code_word (m := ⟨3, 0⟩) (meth := k3m0) (c := k3c0) (by decide +kernel) rfl rfl rfl (by decide +kernel)
set_option maxRecDepth 65536 in
theorem w_c4 : (Jvm.Cond.code ({ cls := "java/lang/Object", name := "<init>", desc := "()V" } : Jvm.MethodName) object_method_1_code (1 : Nat) (Option.none : Option Jvm.ClassFile.FieldType)).before args0 about1 = true := code_word (m := ⟨0, 0⟩) (meth := k0m0) (c := k0c0) (by decide +kernel) rfl rfl rfl (by decide +kernel)
set_option maxRecDepth 65536 in
theorem w_c5 : (Jvm.Cond.code ({ cls := "java/util/Arrays", name := "fill", desc := "([II)V" } : Jvm.MethodName) jdk_65_method_103_code (4 : Nat) (Option.none : Option Jvm.ClassFile.FieldType)).before args0 about1 = true := code_word (m := ⟨4, 1⟩) (meth := k4m1) (c := k4c1) (by decide +kernel) rfl rfl rfl (by decide +kernel)
set_option maxRecDepth 65536 in
theorem w_c6 : (Jvm.Cond.code ({ cls := "com/example/rackweave/rackweave/core/ChangeMarks", name := "mark", desc := "(II)V" } : Jvm.MethodName) prog_16_method_2_code (4 : Nat) (Option.none : Option Jvm.ClassFile.FieldType)).before args0 about1 = true := code_word (m := ⟨3, 1⟩) (meth := k3m1) (c := k3c1) (by decide +kernel) rfl rfl rfl (by decide +kernel)
set_option maxRecDepth 65536 in
theorem w_c7 : (Jvm.Cond.code ({ cls := "com/example/rackweave/rackweave/core/ChangeMarks", name := "keep", desc := "()V" } : Jvm.MethodName) prog_16_method_4_code (1 : Nat) (Option.none : Option Jvm.ClassFile.FieldType)).before args0 about1 = true := code_word (m := ⟨3, 3⟩) (meth := k3m3) (c := k3c3) (by decide +kernel) rfl rfl rfl (by decide +kernel)
set_option maxRecDepth 65536 in
theorem w_c8 : (Jvm.Cond.code ({ cls := "com/example/rackweave/rackweave/core/ChangeMarks", name := "restore", desc := "()V" } : Jvm.MethodName) prog_16_method_5_code (2 : Nat) (Option.none : Option Jvm.ClassFile.FieldType)).before args0 about1 = true := code_word (m := ⟨3, 4⟩) (meth := k3m4) (c := k3c4) (by decide +kernel) rfl rfl rfl (by decide +kernel)
set_option maxRecDepth 65536 in
theorem w_c9 : (Jvm.Cond.code ({ cls := "com/example/rackweave/rackweave/core/ChangeMarks", name := "changedFrom", desc := "(I)I" } : Jvm.MethodName) prog_16_method_3_code (2 : Nat) (Option.some Jvm.ClassFile.FieldType.int)).before args0 about1 = true := code_word (m := ⟨3, 2⟩) (meth := k3m2) (c := k3c2) (by decide +kernel) rfl rfl rfl (by decide +kernel)
def codes1 : List Jvm.Cond := [Jvm.Cond.code x code maxLocals ret, Jvm.Cond.code ({ cls := "com/example/rackweave/rackweave/core/ChangeMarksRestorePinLaw", name := "rank", desc := "(I)I" } : Jvm.MethodName) method_2_code (1 : Nat) (Option.some Jvm.ClassFile.FieldType.int), Jvm.Cond.code ({ cls := "java/lang/Math", name := "min", desc := "(II)I" } : Jvm.MethodName) jdk_29_method_69_code (2 : Nat) (Option.some Jvm.ClassFile.FieldType.int), Jvm.Cond.code ({ cls := "com/example/rackweave/rackweave/core/ChangeMarks", name := "<init>", desc := "(I)V" } : Jvm.MethodName) prog_16_method_1_code (2 : Nat) (Option.none : Option Jvm.ClassFile.FieldType), Jvm.Cond.code ({ cls := "java/lang/Object", name := "<init>", desc := "()V" } : Jvm.MethodName) object_method_1_code (1 : Nat) (Option.none : Option Jvm.ClassFile.FieldType), Jvm.Cond.code ({ cls := "java/util/Arrays", name := "fill", desc := "([II)V" } : Jvm.MethodName) jdk_65_method_103_code (4 : Nat) (Option.none : Option Jvm.ClassFile.FieldType), Jvm.Cond.code ({ cls := "com/example/rackweave/rackweave/core/ChangeMarks", name := "mark", desc := "(II)V" } : Jvm.MethodName) prog_16_method_2_code (4 : Nat) (Option.none : Option Jvm.ClassFile.FieldType), Jvm.Cond.code ({ cls := "com/example/rackweave/rackweave/core/ChangeMarks", name := "keep", desc := "()V" } : Jvm.MethodName) prog_16_method_4_code (1 : Nat) (Option.none : Option Jvm.ClassFile.FieldType), Jvm.Cond.code ({ cls := "com/example/rackweave/rackweave/core/ChangeMarks", name := "restore", desc := "()V" } : Jvm.MethodName) prog_16_method_5_code (2 : Nat) (Option.none : Option Jvm.ClassFile.FieldType), Jvm.Cond.code ({ cls := "com/example/rackweave/rackweave/core/ChangeMarks", name := "changedFrom", desc := "(I)I" } : Jvm.MethodName) prog_16_method_3_code (2 : Nat) (Option.some Jvm.ClassFile.FieldType.int)]
set_option maxRecDepth 65536 in
theorem codes_eq : words1.filter isCode = codes1 := rfl
theorem w_codes : ∀ c ∈ words1.filter isCode, c.before args0 about1 = true := by
  rw [codes_eq]
  intro c hc
  simp only [codes1, List.mem_cons, List.not_mem_nil, or_false] at hc
  rcases hc with rfl | rfl | rfl | rfl | rfl | rfl | rfl | rfl | rfl | rfl
  · exact w_c0
  · exact w_c1
  · exact w_c2
  · exact w_c3
  · exact w_c4
  · exact w_c5
  · exact w_c6
  · exact w_c7
  · exact w_c8
  · exact w_c9
set_option maxRecDepth 65536 in
theorem w_t1 : (words1.take 24).all (fun c => isCode c || c.before args0 about1) = true := by decide +kernel
set_option maxRecDepth 65536 in
theorem w_t2 : ((words1.drop 24).take 24).all (fun c => isCode c || c.before args0 about1) = true := by decide +kernel
set_option maxRecDepth 65536 in
theorem w_t3 : ((words1.drop 24).drop 24).all (fun c => isCode c || c.before args0 about1) = true := by decide +kernel
theorem w_tables : (allAtoms (Jvm.Cond.code x code maxLocals ret :: tables_1)).before args0 about1 = true := by
  rw [allAtoms_all]
  show words1.all (fun c => c.before args0 about1) = true
  refine all_split ?_ w_codes
  rw [← List.take_append_drop 24 words1, List.all_append, w_t1, ← List.take_append_drop 24 (words1.drop 24), List.all_append, w_t2, w_t3]
  rfl
set_option maxRecDepth 65536 in
theorem w_case : (Jvm.Cond.and given_1 narrow_1).before args0 about1 = true := by decide +kernel
theorem w_applies : (headSpec (Jvm.Cond.code x code maxLocals ret :: tables_1) room_1).applies x e0.platform about1 = true :=
  (Spec.applies_iff w_frames).mpr ⟨w_running, w_runnable, w_alone, w_named, w_hears, w_ripe, w_room, w_tables⟩
theorem atStart : AtStart classFile x code maxLocals ret World_1 tables_1 room_1 Calls_1 rest_1 Pre_1 launch0 p0 e0 about1 theMethod args0 below0 :=
  ⟨lists_1, trivial, launch0.admits_env _ _ _, launch0.least_env, fairChoices_fair.cas, fairChoices_fair.clock, w_frames, w_args, w_heap, w_applies, trivial, trivial, w_case⟩
end start1
theorem witness_1 : WitnessClaimed_1 := ⟨start1.p0, start1.e0, start1.about1, start1.theMethod, start1.args0, start1.below0, start1.atStart⟩
end Jvm.Pilot.@@N@@
