import JvmDerived
import JvmDerived.Pilot.@@N@@Statement
import JvmDerived.Pilot.@@N@@Code
set_option linter.unusedVariables false
set_option linter.unusedSimpArgs false
namespace Jvm.Pilot.@@N@@
open Jvm Jvm.ClassFile Sem Op Lib Jvm.Free Jvm.Stand Jvm.LawKit Jvm.RoadKit Bundle Jvm.Pilot.@@N@@.Jvm.D
/-! OWN KIT: the walk's steps in one form: 'own_A' where the run stands, 'own_E' that it ends as G says. -/
def own_E (p : Program) (e : Env) (below : List Frame) (G : Outcome → State → Prop) (A : State) : Prop := ∃ s₂ o, Steps p.tables e below A s₂ ∧ s₂.status = .running ∧ Ended s₂ below o ∧ G o s₂
def own_A (l : Launch) (Z : State) (own : String) (cb : ByteArray) (ml n0 : Nat) (p : Program) (e : Env) (R : Room) (s : State) (m : MethodId) (args : Array Value) (below : List Frame) (meth : Method) (c : Code) (T : State) (h : Heap) (locs : List Loc) (cells slots : Nat) : Prop :=
  Stand p l e R s m args below meth c T locs cells slots ∧ p.tables.exec = Jvm.exec ∧ Z.Warmed39 s.vm ∧ c.code = cb ∧ c.maxLocals = ml ∧ s.vm.findClass own = some m.cls ∧ T.heap = h ∧ Fr n0 locs ∧ n0 ≤ h.size ∧ meth.locks = false
def own_G (R : Room) (s : State) (n0 : Nat) (Q : Option Value → Heap → Prop) (o : Outcome) (U : State) : Prop := ∃ v L, o = .returned v ∧ (Q v U.heap ∧ Fr n0 L ∧ n0 ≤ U.heap.size) ∧ FrameEnd s o U L R.cells R.slots
def own_Con (l : Launch) (Z : State) (y : MethodName) (cb : ByteArray) (ml : Nat) (ret : Option FieldType) (rm : Room) (as' : Array Value) (h0 : Heap) (n0 : Nat) (Q : Option Value → Heap → Prop) : Prop :=
  ∀ ws, MetFree l y (head1 (Jvm.Cond.code y cb ml ret :: ws) rm) (fun a U => a = as' ∧ Z.Warmed39 U.vm ∧ U.heap = h0) (fun _ _ _ _ _ => True) (fun _ U o U' => ∃ v L, o = .returned v ∧ (Q v U'.heap ∧ Fr n0 L ∧ n0 ≤ U'.heap.size) ∧ FrameEnd U o U' L rm.cells rm.slots)
theorem own_b255 (x : Int32) : x &&& 255 = x.toInt8.toInt32 &&& 255 := by
  apply Int32.toBitVec_inj.mp
  rw [Int32.toBitVec_and, Int32.toBitVec_and]
  show x.toBitVec &&& (BitVec.ofNat 32 255) = (x.toBitVec.signExtend 8).signExtend 32 &&& (BitVec.ofNat 32 255)
  apply BitVec.eq_of_getLsbD_eq
  intro i hi
  rw [BitVec.getLsbD_and, BitVec.getLsbD_and, BitVec.getLsbD_signExtend, BitVec.getLsbD_signExtend]
  by_cases h : i < 8
  · simp [h, hi]
  · have : ((BitVec.ofNat 32 255)).getLsbD i = false := by
      have h2 : 8 ≤ i := by omega
      have : ((BitVec.ofNat 32 255)).getLsbD i = Nat.testBit 255 i := by simp [BitVec.getLsbD]
      rw [this]; exact Nat.testBit_lt_two_pow (Nat.lt_of_lt_of_le (by decide : 255 < 2^8) (Nat.pow_le_pow_right (by decide) h2))
    simp [this]
theorem own_lremE (x y : Int64) : x - (x / y) * y = x % y := by
  apply Int64.toInt_inj.mp
  have h1 := Int64.le_toInt (x % y)
  have h2 := Int64.toInt_lt (x % y)
  rw [Int64.toInt_sub, Int64.toInt_mul, Int64.toInt_div, Int.bmod_mul_bmod, Int.sub_bmod_bmod, Int.mul_comm (x.toInt.tdiv y.toInt), ← Int.tmod_def, ← Int64.toInt_mod]
  exact Int.bmod_eq_of_le_mul_two (by omega) (by omega)
theorem own_addc (x a b c : Int32) (h : a + b = c) : (x + a) + b = x + c := by rw [Int32.add_assoc, h]
theorem own_nb (t : Int32) : nar .byte (t.toInt8.toInt32) = t.toInt8.toInt32 := by
  show (t.toInt8.toInt32).toInt8.toInt32 = t.toInt8.toInt32
  simp
section OwnKit
variable {l : Launch} {Z : State} {a0 : Array Value} {own : String} {cb : ByteArray} {ml n0 : Nat} {p : Program} {e : Env} {R : Room} {s : State} {m : MethodId} {args : Array Value} {below : List Frame} {meth : Method} {c : Code} {T : State} {h h' : Heap} {locs : List Loc} {cells slots : Nat} {G : Outcome → State → Prop} {pc pc' : Nat} {Ls Ls' : Array Slot} {S : List Value}
theorem own_go {A B : State} (h : ∀ t, Steps p.tables e below B t → Steps p.tables e below A t) (k : own_E p e below G B) : own_E p e below G A := by
  obtain ⟨s₂, o, h1, r⟩ := k; exact ⟨s₂, o, h _ h1, r⟩
theorem own_enter {y : MethodName} {ret : Option FieldType} {as' : Array Value} {h0 : Heap} {Q : Option Value → Heap → Prop} (hpl : plainFor y = true) (hsz : n0 ≤ h0.size) (hef : ∀ m, entryFrame m as' ml = mkF m 0 Ls [])
    (k : ∀ p e s m below meth c T, own_A l Z y.cls cb ml n0 p e R s m as' below meth c T h0 [] 0 0 → meth.sig.returnType = ret → meth.name = y.name → own_E p e below (own_G R s n0 Q) (T.setTop (mkF m 0 Ls []))) : own_Con l Z y cb ml ret R as' h0 n0 Q := by
  intro ws
  refine MetFree.of_bodySF hpl hisR ?_
  intro p e s m args below meth c s₁ Bd hml0 hP hK
  obtain ⟨rfl, hZ, hh⟩ := hP
  have e0 : s₁.heap = h0 := by rw [← hh, Bd.state]; rfl
  have K := k p e s m below meth c s₁ ⟨Stand.of_body Bd, Bd.exec, hZ, Bd.bytes, hml0, findClass_of_methodNamed Bd.named, e0, Fr.nil n0, hsz, Bd.notSynchronized⟩ Bd.returns (name_of_methodNamed Bd.named Bd.method).1
  obtain ⟨s₂, o, h1, h2, h3, h4⟩ := K
  exact ⟨s₂, o, castTop (hef m) h1, h2, h3, h4⟩
theorem own_iret (X : own_A l Z own cb ml n0 p e R s m args below meth c T h locs cells slots) {t : FieldType} {z w : Int32} {Q : Option Value → Heap → Prop} (hr : meth.sig.returnType = some t) (ht : t = .int ∨ t = .boolean ∨ t = .byte ∨ t = .char ∨ t = .short) (hd : decode cb pc = .ok (.ireturn, 1)) (hz : nar t z = w) (hc : cells ≤ R.cells) (hs : slots ≤ R.slots) (hQ : Q (some (.int w)) h) :
    own_E p e below (own_G R s n0 Q) (T.setTop (mkF m pc Ls (.int z :: S))) := by
  obtain ⟨X, hx, hZ, hby, hml, hown, rfl, N, hsz, hlk⟩ := X
  subst hz
  obtain ⟨fs, hl, hrun, hended, hW, hsame⟩ := X.leave (v := some (.int (nar t z))) (fun q => by rw [hr] at q; cases q) hlk
  refine ⟨_, _, ?_, hrun, hended, _, locs, rfl, ⟨hQ, N, hsz⟩, ⟨_, rfl⟩, hW, hsame.mono hc hs⟩
  rcases ht with rfl | ht
  · exact retOut X hx hr rfl (Or.inl ⟨rfl, Or.inl rfl, z, rfl⟩) (hb hby hd) hl
  · exact retN X hx hr ht (hb hby hd) hl
theorem own_lret (X : own_A l Z own cb ml n0 p e R s m args below meth c T h locs cells slots) {z : Int64} {Q : Option Value → Heap → Prop} (hr : meth.sig.returnType = some .long) (hd : decode cb pc = .ok (.lreturn, 1)) (hc : cells ≤ R.cells) (hs : slots ≤ R.slots) (hQ : Q (some (.long z)) h) :
    own_E p e below (own_G R s n0 Q) (T.setTop (mkF m pc Ls (.long z :: S))) := by
  obtain ⟨X, hx, hZ, hby, hml, hown, rfl, N, hsz, hlk⟩ := X
  obtain ⟨fs, hl, hrun, hended, hW, hsame⟩ := X.leave (v := some (.long z)) (fun q => by rw [hr] at q; cases q) hlk
  exact ⟨_, _, retOut X hx hr rfl (Or.inr (Or.inl ⟨rfl, rfl, z, rfl⟩)) (hb hby hd) hl, hrun, hended, _, locs, rfl, ⟨hQ, N, hsz⟩, ⟨_, rfl⟩, hW, hsame.mono hc hs⟩
theorem own_aret (X : own_A l Z own cb ml n0 p e R s m args below meth c T h locs cells slots) {t : FieldType} {v : Value} {Q : Option Value → Heap → Prop} (hr : meth.sig.returnType = some t) (ht : t.isReference = true) (hv : v.isRef = true) (hn : narrow t v = v) (hd : decode cb pc = .ok (.areturn, 1)) (hc : cells ≤ R.cells) (hs : slots ≤ R.slots) (hQ : Q (some v) h) :
    own_E p e below (own_G R s n0 Q) (T.setTop (mkF m pc Ls (v :: S))) := by
  obtain ⟨X, hx, hZ, hby, hml, hown, rfl, N, hsz, hlk⟩ := X
  obtain ⟨fs, hl, hrun, hended, hW, hsame⟩ := X.leave (v := some v) (fun q => by rw [hr] at q; cases q) hlk
  exact ⟨_, _, retOut X hx hr hn (Or.inr (Or.inr (Or.inr (Or.inr ⟨rfl, ht, hv⟩)))) (hb hby hd) hl, hrun, hended, _, locs, rfl, ⟨hQ, N, hsz⟩, ⟨_, rfl⟩, hW, hsame.mono hc hs⟩
theorem own_vret (X : own_A l Z own cb ml n0 p e R s m args below meth c T h locs cells slots) {Q : Option Value → Heap → Prop} (hr : meth.sig.returnType = none) (hd : decode cb pc = .ok (.return_, 1)) (hc : cells ≤ R.cells) (hs : slots ≤ R.slots) (hQ : Q none h) :
    own_E p e below (own_G R s n0 Q) (T.setTop (mkF m pc Ls [])) := by
  obtain ⟨X, hx, hZ, hby, hml, hown, rfl, N, hsz, hlk⟩ := X
  obtain ⟨fs, hl, hrun, hended, hW, hsame⟩ := X.leave (v := none) (fun _ => rfl) hlk
  exact ⟨_, _, X.returnOut hx hr (hb hby hd) hl, hrun, hended, _, locs, rfl, ⟨hQ, N, hsz⟩, ⟨_, rfl⟩, hW, hsame.mono hc hs⟩
theorem own_iloadN (X : own_A l Z own cb ml n0 p e R s m args below meth c T h locs cells slots) {i : Fin 4} {v : Int32} (hd : decode cb pc = .ok (.iload_n i, 1)) (hp : pc + 1 = pc') (hl : Ls[i.val]? = some (.val (.int v))) (k : own_E p e below G (T.setTop (mkF m pc' Ls (.int v :: S)))) : own_E p e below G (T.setTop (mkF m pc Ls S)) := by
  subst hp; exact own_go (fun _ => XS.iloadN X.1.here X.2.1 rfl (hb X.2.2.2.1 hd) hl) k
theorem own_iload (X : own_A l Z own cb ml n0 p e R s m args below meth c T h locs cells slots) {i : Nat} {v : Int32} (hd : decode cb pc = .ok (.iload i, 2)) (hp : pc + 2 = pc') (hl : Ls[i]? = some (.val (.int v))) (k : own_E p e below G (T.setTop (mkF m pc' Ls (.int v :: S)))) : own_E p e below G (T.setTop (mkF m pc Ls S)) := by
  subst hp; exact own_go (fun _ => XS.iload X.1.here X.2.1 rfl (hb X.2.2.2.1 hd) hl) k
theorem own_istoreN (X : own_A l Z own cb ml n0 p e R s m args below meth c T h locs cells slots) {i : Fin 4} {x y : Int32} (hd : decode cb pc = .ok (.istore_n i, 1)) (hp : pc + 1 = pc') (hv : x = y) (hl : storeLocals Ls i.val (.int y) = some Ls') (k : own_E p e below G (T.setTop (mkF m pc' Ls' S))) : own_E p e below G (T.setTop (mkF m pc Ls (.int x :: S))) := by
  subst hp; subst hv; exact own_go (fun _ => XS.istoreN X.1.here X.2.1 rfl (hb X.2.2.2.1 hd) rfl hl) k
theorem own_istore (X : own_A l Z own cb ml n0 p e R s m args below meth c T h locs cells slots) {i : Nat} {x y : Int32} (hd : decode cb pc = .ok (.istore i, 2)) (hp : pc + 2 = pc') (hv : x = y) (hl : storeLocals Ls i (.int y) = some Ls') (k : own_E p e below G (T.setTop (mkF m pc' Ls' S))) : own_E p e below G (T.setTop (mkF m pc Ls (.int x :: S))) := by
  subst hp; subst hv; exact own_go (fun _ => XS.istore X.1.here X.2.1 rfl (hb X.2.2.2.1 hd) rfl hl) k
theorem own_lloadN (X : own_A l Z own cb ml n0 p e R s m args below meth c T h locs cells slots) {i : Fin 4} {v : Int64} (hd : decode cb pc = .ok (.lload_n i, 1)) (hp : pc + 1 = pc') (hl : Ls[i.val]? = some (.val (.long v))) (k : own_E p e below G (T.setTop (mkF m pc' Ls (.long v :: S)))) : own_E p e below G (T.setTop (mkF m pc Ls S)) := by
  subst hp; exact own_go (fun _ => XS.lloadN X.1.here X.2.1 rfl (hb X.2.2.2.1 hd) hl) k
theorem own_lload (X : own_A l Z own cb ml n0 p e R s m args below meth c T h locs cells slots) {i : Nat} {v : Int64} (hd : decode cb pc = .ok (.lload i, 2)) (hp : pc + 2 = pc') (hl : Ls[i]? = some (.val (.long v))) (k : own_E p e below G (T.setTop (mkF m pc' Ls (.long v :: S)))) : own_E p e below G (T.setTop (mkF m pc Ls S)) := by
  subst hp; exact own_go (fun _ => XS.lload X.1.here X.2.1 rfl (hb X.2.2.2.1 hd) hl) k
theorem own_lstoreN (X : own_A l Z own cb ml n0 p e R s m args below meth c T h locs cells slots) {i : Fin 4} {x y : Int64} (hd : decode cb pc = .ok (.lstore_n i, 1)) (hp : pc + 1 = pc') (hv : x = y) (hl : storeLocals Ls i.val (.long y) = some Ls') (k : own_E p e below G (T.setTop (mkF m pc' Ls' S))) : own_E p e below G (T.setTop (mkF m pc Ls (.long x :: S))) := by
  subst hp; subst hv; exact own_go (fun _ => XS.lstoreN X.1.here X.2.1 rfl (hb X.2.2.2.1 hd) rfl hl) k
theorem own_lstore (X : own_A l Z own cb ml n0 p e R s m args below meth c T h locs cells slots) {i : Nat} {x y : Int64} (hd : decode cb pc = .ok (.lstore i, 2)) (hp : pc + 2 = pc') (hv : x = y) (hl : storeLocals Ls i (.long y) = some Ls') (k : own_E p e below G (T.setTop (mkF m pc' Ls' S))) : own_E p e below G (T.setTop (mkF m pc Ls (.long x :: S))) := by
  subst hp; subst hv; exact own_go (fun _ => XS.lstore X.1.here X.2.1 rfl (hb X.2.2.2.1 hd) rfl hl) k
theorem own_aloadN (X : own_A l Z own cb ml n0 p e R s m args below meth c T h locs cells slots) {i : Fin 4} {v : Value} (hd : decode cb pc = .ok (.aload_n i, 1)) (hp : pc + 1 = pc') (hl : Ls[i.val]? = some (.val v)) (hr : v.isRef = true) (k : own_E p e below G (T.setTop (mkF m pc' Ls (v :: S)))) : own_E p e below G (T.setTop (mkF m pc Ls S)) := by
  subst hp; exact own_go (fun _ => XS.aloadN X.1.here X.2.1 rfl (hb X.2.2.2.1 hd) hl hr) k
theorem own_aload (X : own_A l Z own cb ml n0 p e R s m args below meth c T h locs cells slots) {i : Nat} {v : Value} (hd : decode cb pc = .ok (.aload i, 2)) (hp : pc + 2 = pc') (hl : Ls[i]? = some (.val v)) (hr : v.isRef = true) (k : own_E p e below G (T.setTop (mkF m pc' Ls (v :: S)))) : own_E p e below G (T.setTop (mkF m pc Ls S)) := by
  subst hp; exact own_go (fun _ => XS.aload X.1.here X.2.1 rfl (hb X.2.2.2.1 hd) hl hr) k
theorem own_astoreN (X : own_A l Z own cb ml n0 p e R s m args below meth c T h locs cells slots) {i : Fin 4} {v : Value} (hd : decode cb pc = .ok (.astore_n i, 1)) (hp : pc + 1 = pc') (hr : v.isRef = true) (hl : storeLocals Ls i.val v = some Ls') (k : own_E p e below G (T.setTop (mkF m pc' Ls' S))) : own_E p e below G (T.setTop (mkF m pc Ls (v :: S))) := by
  subst hp; exact own_go (fun _ => XS.astoreN X.1.here X.2.1 rfl (hb X.2.2.2.1 hd) rfl hr hl) k
theorem own_astore (X : own_A l Z own cb ml n0 p e R s m args below meth c T h locs cells slots) {i : Nat} {v : Value} (hd : decode cb pc = .ok (.astore i, 2)) (hp : pc + 2 = pc') (hr : v.isRef = true) (hl : storeLocals Ls i v = some Ls') (k : own_E p e below G (T.setTop (mkF m pc' Ls' S))) : own_E p e below G (T.setTop (mkF m pc Ls (v :: S))) := by
  subst hp; exact own_go (fun _ => XS.astore X.1.here X.2.1 rfl (hb X.2.2.2.1 hd) rfl hr hl) k
theorem own_iconst (X : own_A l Z own cb ml n0 p e R s m args below meth c T h locs cells slots) {i : Int} {z : Int32} (hd : decode cb pc = .ok (.iconst i, 1)) (hp : pc + 1 = pc') (hz : Int32.ofInt i = z) (k : own_E p e below G (T.setTop (mkF m pc' Ls (.int z :: S)))) : own_E p e below G (T.setTop (mkF m pc Ls S)) := by
  subst hp; subst hz; exact own_go (fun _ => XS.iconst X.1.here X.2.1 rfl (hb X.2.2.2.1 hd)) k
theorem own_bipush (X : own_A l Z own cb ml n0 p e R s m args below meth c T h locs cells slots) {i : Int} {z : Int32} (hd : decode cb pc = .ok (.bipush i, 2)) (hp : pc + 2 = pc') (hz : (Int8.ofInt i).toInt32 = z) (k : own_E p e below G (T.setTop (mkF m pc' Ls (.int z :: S)))) : own_E p e below G (T.setTop (mkF m pc Ls S)) := by
  subst hp; subst hz; exact own_go (fun _ => XS.bipush X.1.here X.2.1 rfl (hb X.2.2.2.1 hd)) k
theorem own_sipush (X : own_A l Z own cb ml n0 p e R s m args below meth c T h locs cells slots) {i : Int} {z : Int32} (hd : decode cb pc = .ok (.sipush i, 3)) (hp : pc + 3 = pc') (hz : (Int16.ofInt i).toInt32 = z) (k : own_E p e below G (T.setTop (mkF m pc' Ls (.int z :: S)))) : own_E p e below G (T.setTop (mkF m pc Ls S)) := by
  subst hp; subst hz; exact own_go (fun _ => XS.sipush X.1.here X.2.1 rfl (hb X.2.2.2.1 hd)) k
theorem own_lconst (X : own_A l Z own cb ml n0 p e R s m args below meth c T h locs cells slots) {i : Fin 2} {z : Int64} (hd : decode cb pc = .ok (.lconst i, 1)) (hp : pc + 1 = pc') (hz : Int64.ofNat i = z) (k : own_E p e below G (T.setTop (mkF m pc' Ls (.long z :: S)))) : own_E p e below G (T.setTop (mkF m pc Ls S)) := by
  subst hp; subst hz; exact own_go (fun _ => XS.lconst X.1.here X.2.1 rfl (hb X.2.2.2.1 hd)) k
theorem own_anull (X : own_A l Z own cb ml n0 p e R s m args below meth c T h locs cells slots)  (hd : decode cb pc = .ok (.aconst_null, 1)) (hp : pc + 1 = pc') (k : own_E p e below G (T.setTop (mkF m pc' Ls (.null :: S)))) : own_E p e below G (T.setTop (mkF m pc Ls S)) := by
  subst hp; exact own_go (fun _ => XS.aconstNull X.1.here X.2.1 rfl (hb X.2.2.2.1 hd)) k
theorem own_iadd (X : own_A l Z own cb ml n0 p e R s m args below meth c T h locs cells slots) {x y z : Int32} (hd : decode cb pc = .ok (.iadd, 1)) (hp : pc + 1 = pc') (hz : x + y = z) (k : own_E p e below G (T.setTop (mkF m pc' Ls (.int z :: S)))) : own_E p e below G (T.setTop (mkF m pc Ls (.int y :: .int x :: S))) := by
  subst hp; subst hz; exact own_go (fun _ => XS.iadd X.1.here X.2.1 rfl (hb X.2.2.2.1 hd) rfl) k
theorem own_isub (X : own_A l Z own cb ml n0 p e R s m args below meth c T h locs cells slots) {x y z : Int32} (hd : decode cb pc = .ok (.isub, 1)) (hp : pc + 1 = pc') (hz : x - y = z) (k : own_E p e below G (T.setTop (mkF m pc' Ls (.int z :: S)))) : own_E p e below G (T.setTop (mkF m pc Ls (.int y :: .int x :: S))) := by
  subst hp; subst hz; exact own_go (fun _ => XS.isub X.1.here X.2.1 rfl (hb X.2.2.2.1 hd) rfl) k
theorem own_imul (X : own_A l Z own cb ml n0 p e R s m args below meth c T h locs cells slots) {x y z : Int32} (hd : decode cb pc = .ok (.imul, 1)) (hp : pc + 1 = pc') (hz : x * y = z) (k : own_E p e below G (T.setTop (mkF m pc' Ls (.int z :: S)))) : own_E p e below G (T.setTop (mkF m pc Ls (.int y :: .int x :: S))) := by
  subst hp; subst hz; exact own_go (fun _ => XS.imul X.1.here X.2.1 rfl (hb X.2.2.2.1 hd) rfl) k
theorem own_iand (X : own_A l Z own cb ml n0 p e R s m args below meth c T h locs cells slots) {x y z : Int32} (hd : decode cb pc = .ok (.iand, 1)) (hp : pc + 1 = pc') (hz : x &&& y = z) (k : own_E p e below G (T.setTop (mkF m pc' Ls (.int z :: S)))) : own_E p e below G (T.setTop (mkF m pc Ls (.int y :: .int x :: S))) := by
  subst hp; subst hz; exact own_go (fun _ => XS.iand X.1.here X.2.1 rfl (hb X.2.2.2.1 hd) rfl) k
theorem own_ior (X : own_A l Z own cb ml n0 p e R s m args below meth c T h locs cells slots) {x y z : Int32} (hd : decode cb pc = .ok (.ior, 1)) (hp : pc + 1 = pc') (hz : x ||| y = z) (k : own_E p e below G (T.setTop (mkF m pc' Ls (.int z :: S)))) : own_E p e below G (T.setTop (mkF m pc Ls (.int y :: .int x :: S))) := by
  subst hp; subst hz; exact own_go (fun _ => XS.ior X.1.here X.2.1 rfl (hb X.2.2.2.1 hd) rfl) k
theorem own_ixor (X : own_A l Z own cb ml n0 p e R s m args below meth c T h locs cells slots) {x y z : Int32} (hd : decode cb pc = .ok (.ixor, 1)) (hp : pc + 1 = pc') (hz : x ^^^ y = z) (k : own_E p e below G (T.setTop (mkF m pc' Ls (.int z :: S)))) : own_E p e below G (T.setTop (mkF m pc Ls (.int y :: .int x :: S))) := by
  subst hp; subst hz; exact own_go (fun _ => XS.ixor X.1.here X.2.1 rfl (hb X.2.2.2.1 hd) rfl) k
theorem own_ishl (X : own_A l Z own cb ml n0 p e R s m args below meth c T h locs cells slots) {x y z : Int32} (hd : decode cb pc = .ok (.ishl, 1)) (hp : pc + 1 = pc') (hz : x <<< (y &&& 31) = z) (k : own_E p e below G (T.setTop (mkF m pc' Ls (.int z :: S)))) : own_E p e below G (T.setTop (mkF m pc Ls (.int y :: .int x :: S))) := by
  subst hp; subst hz; exact own_go (fun _ => XS.ishl X.1.here X.2.1 rfl (hb X.2.2.2.1 hd) rfl) k
theorem own_ishr (X : own_A l Z own cb ml n0 p e R s m args below meth c T h locs cells slots) {x y z : Int32} (hd : decode cb pc = .ok (.ishr, 1)) (hp : pc + 1 = pc') (hz : x >>> (y &&& 31) = z) (k : own_E p e below G (T.setTop (mkF m pc' Ls (.int z :: S)))) : own_E p e below G (T.setTop (mkF m pc Ls (.int y :: .int x :: S))) := by
  subst hp; subst hz; exact own_go (fun _ => XS.ishr X.1.here X.2.1 rfl (hb X.2.2.2.1 hd) rfl) k
theorem own_iushr (X : own_A l Z own cb ml n0 p e R s m args below meth c T h locs cells slots) {x y z : Int32} (hd : decode cb pc = .ok (.iushr, 1)) (hp : pc + 1 = pc') (hz : (x.toUInt32 >>> (y &&& 31).toUInt32).toInt32 = z) (k : own_E p e below G (T.setTop (mkF m pc' Ls (.int z :: S)))) : own_E p e below G (T.setTop (mkF m pc Ls (.int y :: .int x :: S))) := by
  subst hp; subst hz; exact own_go (fun _ => XS.iushr X.1.here X.2.1 rfl (hb X.2.2.2.1 hd) rfl) k
theorem own_ladd (X : own_A l Z own cb ml n0 p e R s m args below meth c T h locs cells slots) {x y z : Int64} (hd : decode cb pc = .ok (.ladd, 1)) (hp : pc + 1 = pc') (hz : x + y = z) (k : own_E p e below G (T.setTop (mkF m pc' Ls (.long z :: S)))) : own_E p e below G (T.setTop (mkF m pc Ls (.long y :: .long x :: S))) := by
  subst hp; subst hz; exact own_go (fun _ => XS.ladd X.1.here X.2.1 rfl (hb X.2.2.2.1 hd) rfl) k
theorem own_lsub (X : own_A l Z own cb ml n0 p e R s m args below meth c T h locs cells slots) {x y z : Int64} (hd : decode cb pc = .ok (.lsub, 1)) (hp : pc + 1 = pc') (hz : x - y = z) (k : own_E p e below G (T.setTop (mkF m pc' Ls (.long z :: S)))) : own_E p e below G (T.setTop (mkF m pc Ls (.long y :: .long x :: S))) := by
  subst hp; subst hz; exact own_go (fun _ => XS.lsub X.1.here X.2.1 rfl (hb X.2.2.2.1 hd) rfl) k
theorem own_lmul (X : own_A l Z own cb ml n0 p e R s m args below meth c T h locs cells slots) {x y z : Int64} (hd : decode cb pc = .ok (.lmul, 1)) (hp : pc + 1 = pc') (hz : x * y = z) (k : own_E p e below G (T.setTop (mkF m pc' Ls (.long z :: S)))) : own_E p e below G (T.setTop (mkF m pc Ls (.long y :: .long x :: S))) := by
  subst hp; subst hz; exact own_go (fun _ => XS.lmul X.1.here X.2.1 rfl (hb X.2.2.2.1 hd) rfl) k
theorem own_land (X : own_A l Z own cb ml n0 p e R s m args below meth c T h locs cells slots) {x y z : Int64} (hd : decode cb pc = .ok (.land, 1)) (hp : pc + 1 = pc') (hz : x &&& y = z) (k : own_E p e below G (T.setTop (mkF m pc' Ls (.long z :: S)))) : own_E p e below G (T.setTop (mkF m pc Ls (.long y :: .long x :: S))) := by
  subst hp; subst hz; exact own_go (fun _ => XS.land X.1.here X.2.1 rfl (hb X.2.2.2.1 hd) rfl) k
theorem own_lor (X : own_A l Z own cb ml n0 p e R s m args below meth c T h locs cells slots) {x y z : Int64} (hd : decode cb pc = .ok (.lor, 1)) (hp : pc + 1 = pc') (hz : x ||| y = z) (k : own_E p e below G (T.setTop (mkF m pc' Ls (.long z :: S)))) : own_E p e below G (T.setTop (mkF m pc Ls (.long y :: .long x :: S))) := by
  subst hp; subst hz; exact own_go (fun _ => XS.lor X.1.here X.2.1 rfl (hb X.2.2.2.1 hd) rfl) k
theorem own_lxor (X : own_A l Z own cb ml n0 p e R s m args below meth c T h locs cells slots) {x y z : Int64} (hd : decode cb pc = .ok (.lxor, 1)) (hp : pc + 1 = pc') (hz : x ^^^ y = z) (k : own_E p e below G (T.setTop (mkF m pc' Ls (.long z :: S)))) : own_E p e below G (T.setTop (mkF m pc Ls (.long y :: .long x :: S))) := by
  subst hp; subst hz; exact own_go (fun _ => XS.lxor X.1.here X.2.1 rfl (hb X.2.2.2.1 hd) rfl) k
theorem own_lshl (X : own_A l Z own cb ml n0 p e R s m args below meth c T h locs cells slots) {x z : Int64} {y : Int32} (hd : decode cb pc = .ok (.lshl, 1)) (hp : pc + 1 = pc') (hz : x <<< (y &&& 0x3f).toInt64 = z) (k : own_E p e below G (T.setTop (mkF m pc' Ls (.long z :: S)))) : own_E p e below G (T.setTop (mkF m pc Ls (.int y :: .long x :: S))) := by
  subst hp; subst hz; exact own_go (fun _ => XS.lshl X.1.here X.2.1 rfl (hb X.2.2.2.1 hd) rfl) k
theorem own_lshr (X : own_A l Z own cb ml n0 p e R s m args below meth c T h locs cells slots) {x z : Int64} {y : Int32} (hd : decode cb pc = .ok (.lshr, 1)) (hp : pc + 1 = pc') (hz : x >>> (y &&& 0x3f).toInt64 = z) (k : own_E p e below G (T.setTop (mkF m pc' Ls (.long z :: S)))) : own_E p e below G (T.setTop (mkF m pc Ls (.int y :: .long x :: S))) := by
  subst hp; subst hz; exact own_go (fun _ => XS.lshr X.1.here X.2.1 rfl (hb X.2.2.2.1 hd) rfl) k
theorem own_lushr (X : own_A l Z own cb ml n0 p e R s m args below meth c T h locs cells slots) {x z : Int64} {y : Int32} (hd : decode cb pc = .ok (.lushr, 1)) (hp : pc + 1 = pc') (hz : (x.toUInt64 >>> (y &&& 0x3f).toInt64.toUInt64).toInt64 = z) (k : own_E p e below G (T.setTop (mkF m pc' Ls (.long z :: S)))) : own_E p e below G (T.setTop (mkF m pc Ls (.int y :: .long x :: S))) := by
  subst hp; subst hz; exact own_go (fun _ => XS.lushr X.1.here X.2.1 rfl (hb X.2.2.2.1 hd) rfl) k
theorem own_idiv (X : own_A l Z own cb ml n0 p e R s m args below meth c T h locs cells slots) {x y z : Int32} (hd : decode cb pc = .ok (.idiv, 1)) (hp : pc + 1 = pc') (hy : y ≠ 0) (hz : x / y = z) (k : own_E p e below G (T.setTop (mkF m pc' Ls (.int z :: S)))) : own_E p e below G (T.setTop (mkF m pc Ls (.int y :: .int x :: S))) := by
  subst hp; subst hz; exact own_go (fun _ => XS.idiv X.1.here X.2.1 rfl (hb X.2.2.2.1 hd) rfl hy) k
theorem own_irem (X : own_A l Z own cb ml n0 p e R s m args below meth c T h locs cells slots) {x y z : Int32} (hd : decode cb pc = .ok (.irem, 1)) (hp : pc + 1 = pc') (hy : y ≠ 0) (hz : x % y = z) (k : own_E p e below G (T.setTop (mkF m pc' Ls (.int z :: S)))) : own_E p e below G (T.setTop (mkF m pc Ls (.int y :: .int x :: S))) := by
  subst hp; subst hz; exact own_go (fun _ => iremM X.1 X.2.1 rfl (hb X.2.2.2.1 hd) rfl hy) k
theorem own_ldiv (X : own_A l Z own cb ml n0 p e R s m args below meth c T h locs cells slots) {x y z : Int64} (hd : decode cb pc = .ok (.ldiv, 1)) (hp : pc + 1 = pc') (hy : y ≠ 0) (hz : x / y = z) (k : own_E p e below G (T.setTop (mkF m pc' Ls (.long z :: S)))) : own_E p e below G (T.setTop (mkF m pc Ls (.long y :: .long x :: S))) := by
  subst hp; subst hz; exact own_go (fun _ => XS.ldiv X.1.here X.2.1 rfl (hb X.2.2.2.1 hd) rfl hy) k
theorem own_lrem (X : own_A l Z own cb ml n0 p e R s m args below meth c T h locs cells slots) {x y z : Int64} (hd : decode cb pc = .ok (.lrem, 1)) (hp : pc + 1 = pc') (hy : y ≠ 0) (hz : x - (x / y) * y = z) (k : own_E p e below G (T.setTop (mkF m pc' Ls (.long z :: S)))) : own_E p e below G (T.setTop (mkF m pc Ls (.long y :: .long x :: S))) := by
  subst hp; subst hz; exact own_go (fun _ => XS.lrem X.1.here X.2.1 rfl (hb X.2.2.2.1 hd) rfl hy) k
theorem own_ineg (X : own_A l Z own cb ml n0 p e R s m args below meth c T h locs cells slots) {x : Int32} {z : Int32} (hd : decode cb pc = .ok (.ineg, 1)) (hp : pc + 1 = pc') (hz : -x = z) (k : own_E p e below G (T.setTop (mkF m pc' Ls (.int z :: S)))) : own_E p e below G (T.setTop (mkF m pc Ls (.int x :: S))) := by
  subst hp; subst hz; exact own_go (fun _ => XS.ineg X.1.here X.2.1 rfl (hb X.2.2.2.1 hd) rfl) k
theorem own_lneg (X : own_A l Z own cb ml n0 p e R s m args below meth c T h locs cells slots) {x : Int64} {z : Int64} (hd : decode cb pc = .ok (.lneg, 1)) (hp : pc + 1 = pc') (hz : -x = z) (k : own_E p e below G (T.setTop (mkF m pc' Ls (.long z :: S)))) : own_E p e below G (T.setTop (mkF m pc Ls (.long x :: S))) := by
  subst hp; subst hz; exact own_go (fun _ => XS.lneg X.1.here X.2.1 rfl (hb X.2.2.2.1 hd) rfl) k
theorem own_i2l (X : own_A l Z own cb ml n0 p e R s m args below meth c T h locs cells slots) {x : Int32} {z : Int64} (hd : decode cb pc = .ok (.i2l, 1)) (hp : pc + 1 = pc') (hz : x.toInt64 = z) (k : own_E p e below G (T.setTop (mkF m pc' Ls (.long z :: S)))) : own_E p e below G (T.setTop (mkF m pc Ls (.int x :: S))) := by
  subst hp; subst hz; exact own_go (fun _ => XS.i2l X.1.here X.2.1 rfl (hb X.2.2.2.1 hd) rfl) k
theorem own_l2i (X : own_A l Z own cb ml n0 p e R s m args below meth c T h locs cells slots) {x : Int64} {z : Int32} (hd : decode cb pc = .ok (.l2i, 1)) (hp : pc + 1 = pc') (hz : x.toInt32 = z) (k : own_E p e below G (T.setTop (mkF m pc' Ls (.int z :: S)))) : own_E p e below G (T.setTop (mkF m pc Ls (.long x :: S))) := by
  subst hp; subst hz; exact own_go (fun _ => XS.l2i X.1.here X.2.1 rfl (hb X.2.2.2.1 hd) rfl) k
theorem own_i2b (X : own_A l Z own cb ml n0 p e R s m args below meth c T h locs cells slots) {x : Int32} {z : Int32} (hd : decode cb pc = .ok (.i2b, 1)) (hp : pc + 1 = pc') (hz : x.toInt8.toInt32 = z) (k : own_E p e below G (T.setTop (mkF m pc' Ls (.int z :: S)))) : own_E p e below G (T.setTop (mkF m pc Ls (.int x :: S))) := by
  subst hp; subst hz; exact own_go (fun _ => XS.i2b X.1.here X.2.1 rfl (hb X.2.2.2.1 hd) rfl) k
theorem own_i2s (X : own_A l Z own cb ml n0 p e R s m args below meth c T h locs cells slots) {x : Int32} {z : Int32} (hd : decode cb pc = .ok (.i2s, 1)) (hp : pc + 1 = pc') (hz : x.toInt16.toInt32 = z) (k : own_E p e below G (T.setTop (mkF m pc' Ls (.int z :: S)))) : own_E p e below G (T.setTop (mkF m pc Ls (.int x :: S))) := by
  subst hp; subst hz; exact own_go (fun _ => XS.i2s X.1.here X.2.1 rfl (hb X.2.2.2.1 hd) rfl) k
theorem own_i2c (X : own_A l Z own cb ml n0 p e R s m args below meth c T h locs cells slots) {x : Int32} {z : Int32} (hd : decode cb pc = .ok (.i2c, 1)) (hp : pc + 1 = pc') (hz : x.toUInt32.toUInt16.toUInt32.toInt32 = z) (k : own_E p e below G (T.setTop (mkF m pc' Ls (.int z :: S)))) : own_E p e below G (T.setTop (mkF m pc Ls (.int x :: S))) := by
  subst hp; subst hz; exact own_go (fun _ => XS.i2c X.1.here X.2.1 rfl (hb X.2.2.2.1 hd) rfl) k
theorem own_iinc (X : own_A l Z own cb ml n0 p e R s m args below meth c T h locs cells slots) {i : Nat} {cst : Int} {x z : Int32} (hd : decode cb pc = .ok (.iinc i cst, 3)) (hp : pc + 3 = pc') (hl : Ls[i]? = some (.val (.int x))) (hz : x + Int32.ofInt cst = z) (hl' : storeLocals Ls i (.int z) = some Ls') (k : own_E p e below G (T.setTop (mkF m pc' Ls' S))) : own_E p e below G (T.setTop (mkF m pc Ls S)) := by
  subst hp; subst hz; exact own_go (fun _ => XS.iinc X.1.here X.2.1 rfl (hb X.2.2.2.1 hd) hl hl') k
theorem own_dup (X : own_A l Z own cb ml n0 p e R s m args below meth c T h locs cells slots) {v : Value} (hd : decode cb pc = .ok (.dup, 1)) (hp : pc + 1 = pc') (hc : v.category = 1) (k : own_E p e below G (T.setTop (mkF m pc' Ls (v :: v :: S)))) : own_E p e below G (T.setTop (mkF m pc Ls (v :: S))) := by
  subst hp; exact own_go (fun _ => XS.dup X.1.here X.2.1 rfl (hb X.2.2.2.1 hd) rfl hc) k
theorem own_pop (X : own_A l Z own cb ml n0 p e R s m args below meth c T h locs cells slots) {v : Value} (hd : decode cb pc = .ok (.pop, 1)) (hp : pc + 1 = pc') (hc : v.category = 1) (k : own_E p e below G (T.setTop (mkF m pc' Ls S))) : own_E p e below G (T.setTop (mkF m pc Ls (v :: S))) := by
  subst hp; exact own_go (fun _ => XS.pop X.1.here X.2.1 rfl (hb X.2.2.2.1 hd) rfl hc) k
theorem own_goto (X : own_A l Z own cb ml n0 p e R s m args below meth c T h locs cells slots) {o : Int} (hd : decode cb pc = .ok (.goto o, 3)) (ho : 0 ≤ (pc : Int) + o) (hp : ((pc : Int) + o).toNat = pc') (k : own_E p e below G (T.setTop (mkF m pc' Ls S))) : own_E p e below G (T.setTop (mkF m pc Ls S)) :=
  own_go (fun _ => XS.goto X.1.here X.2.1 rfl rfl (hb X.2.2.2.1 hd) ho hp) k
theorem own_icmpY (X : own_A l Z own cb ml n0 p e R s m args below meth c T h locs cells slots) {cd : ClassFile.Cond} {o : Int} {x y : Int32} (hd : decode cb pc = .ok (.if_icmp cd o, 3)) (hc : if_icmp.holds cd x y = true) (ho : 0 ≤ (pc : Int) + o) (hp : ((pc : Int) + o).toNat = pc') (k : own_E p e below G (T.setTop (mkF m pc' Ls S))) : own_E p e below G (T.setTop (mkF m pc Ls (.int y :: .int x :: S))) :=
  own_go (fun _ => XS.icmpYes X.1.here X.2.1 rfl rfl (hb X.2.2.2.1 hd) rfl hc ho hp) k
theorem own_icmpN (X : own_A l Z own cb ml n0 p e R s m args below meth c T h locs cells slots) {cd : ClassFile.Cond} {o : Int} {x y : Int32} (hd : decode cb pc = .ok (.if_icmp cd o, 3)) (hc : if_icmp.holds cd x y = false) (hp : pc + 3 = pc') (k : own_E p e below G (T.setTop (mkF m pc' Ls S))) : own_E p e below G (T.setTop (mkF m pc Ls (.int y :: .int x :: S))) := by
  subst hp; exact own_go (fun _ => XS.icmpNo X.1.here X.2.1 rfl (hb X.2.2.2.1 hd) rfl hc) k
theorem own_ifY (X : own_A l Z own cb ml n0 p e R s m args below meth c T h locs cells slots) {cd : ClassFile.Cond} {o : Int} {x : Int32} (hd : decode cb pc = .ok (.ifCond cd o, 3)) (hc : if_icmp.holds cd x 0 = true) (ho : 0 ≤ (pc : Int) + o) (hp : ((pc : Int) + o).toNat = pc') (k : own_E p e below G (T.setTop (mkF m pc' Ls S))) : own_E p e below G (T.setTop (mkF m pc Ls (.int x :: S))) :=
  own_go (fun _ => XS.ifYes X.1.here X.2.1 rfl rfl (hb X.2.2.2.1 hd) rfl ((if0 _ _).trans hc) ho hp) k
theorem own_ifN (X : own_A l Z own cb ml n0 p e R s m args below meth c T h locs cells slots) {cd : ClassFile.Cond} {o : Int} {x : Int32} (hd : decode cb pc = .ok (.ifCond cd o, 3)) (hc : if_icmp.holds cd x 0 = false) (hp : pc + 3 = pc') (k : own_E p e below G (T.setTop (mkF m pc' Ls S))) : own_E p e below G (T.setTop (mkF m pc Ls (.int x :: S))) := by
  subst hp; exact own_go (fun _ => XS.ifNo X.1.here X.2.1 rfl (hb X.2.2.2.1 hd) rfl ((if0 _ _).trans hc)) k
theorem own_ljY (X : own_A l Z own cb ml n0 p e R s m args below meth c T h locs cells slots) {cd : ClassFile.Cond} {o : Int} {x y : Int64} {pc1 : Nat} (hd1 : decode cb pc = .ok (.lcmp, 1)) (h1 : pc + 1 = pc1) (hd : decode cb pc1 = .ok (.ifCond cd o, 3)) (hc : if_icmp.holds cd (lcmpW x y) 0 = true) (ho : 0 ≤ (pc1 : Int) + o) (hp : ((pc1 : Int) + o).toNat = pc') (k : own_E p e below G (T.setTop (mkF m pc' Ls S))) : own_E p e below G (T.setTop (mkF m pc Ls (.long y :: .long x :: S))) := by
  subst h1
  exact own_go (fun _ k => XS.lcmp X.1.here X.2.1 rfl (hb X.2.2.2.1 hd1) rfl (XS.ifYes X.1.here X.2.1 rfl rfl (hb X.2.2.2.1 hd) rfl ((if0 _ _).trans hc) ho hp k)) k
theorem own_ljN (X : own_A l Z own cb ml n0 p e R s m args below meth c T h locs cells slots) {cd : ClassFile.Cond} {o : Int} {x y : Int64} {pc1 : Nat} (hd1 : decode cb pc = .ok (.lcmp, 1)) (h1 : pc + 1 = pc1) (hd : decode cb pc1 = .ok (.ifCond cd o, 3)) (hc : if_icmp.holds cd (lcmpW x y) 0 = false) (hp : pc1 + 3 = pc') (k : own_E p e below G (T.setTop (mkF m pc' Ls S))) : own_E p e below G (T.setTop (mkF m pc Ls (.long y :: .long x :: S))) := by
  subst h1; subst hp
  exact own_go (fun _ k => XS.lcmp X.1.here X.2.1 rfl (hb X.2.2.2.1 hd1) rfl (XS.ifNo X.1.here X.2.1 rfl (hb X.2.2.2.1 hd) rfl ((if0 _ _).trans hc) k)) k
theorem own_tltL {x y : Int64} (q : x < y) : if_icmp.holds .lt (lcmpW x y) 0 = true ∧ if_icmp.holds .ge (lcmpW x y) 0 = false ∧ if_icmp.holds .gt (lcmpW y x) 0 = true ∧ if_icmp.holds .le (lcmpW y x) 0 = false :=
  ⟨(tlt ((lw_lt x y).mpr q)).1, (tlt ((lw_lt x y).mpr q)).2.1, (tlt ((lw_gt y x).mpr q)).2.2.1, (tlt ((lw_gt y x).mpr q)).2.2.2⟩
theorem own_fltL {x y : Int64} (q : ¬ x < y) : if_icmp.holds .lt (lcmpW x y) 0 = false ∧ if_icmp.holds .ge (lcmpW x y) 0 = true ∧ if_icmp.holds .gt (lcmpW y x) 0 = false ∧ if_icmp.holds .le (lcmpW y x) 0 = true :=
  ⟨(flt (fun z => q ((lw_lt x y).mp z))).1, (flt (fun z => q ((lw_lt x y).mp z))).2.1, (flt (fun z => q ((lw_gt y x).mp z))).2.2.1, (flt (fun z => q ((lw_gt y x).mp z))).2.2.2⟩
theorem own_teqL {x y : Int64} (q : x = y) : if_icmp.holds .eq (lcmpW x y) 0 = true ∧ if_icmp.holds .ne (lcmpW x y) 0 = false := teq ((lw_eq x y).mpr q)
theorem own_feqL {x y : Int64} (q : ¬ x = y) : if_icmp.holds .eq (lcmpW x y) 0 = false ∧ if_icmp.holds .ne (lcmpW x y) 0 = true := feq (fun z => q ((lw_eq x y).mp z))
theorem own_ifnullY (X : own_A l Z own cb ml n0 p e R s m args below meth c T h locs cells slots) {o : Int} (hd : decode cb pc = .ok (.ifnull o, 3)) (ho : 0 ≤ (pc : Int) + o) (hp : ((pc : Int) + o).toNat = pc') (k : own_E p e below G (T.setTop (mkF m pc' Ls S))) : own_E p e below G (T.setTop (mkF m pc Ls (.null :: S))) :=
  own_go (fun _ => XS.ifnullYes X.1.here X.2.1 rfl rfl (hb X.2.2.2.1 hd) rfl ho hp) k
theorem own_ifnullN (X : own_A l Z own cb ml n0 p e R s m args below meth c T h locs cells slots) {o : Int} {b : Addr} (hd : decode cb pc = .ok (.ifnull o, 3)) (hp : pc + 3 = pc') (k : own_E p e below G (T.setTop (mkF m pc' Ls S))) : own_E p e below G (T.setTop (mkF m pc Ls (.ref b :: S))) := by
  subst hp; exact own_go (fun _ => XS.ifnullNo X.1.here X.2.1 rfl (hb X.2.2.2.1 hd) rfl) k
theorem own_ldc (X : own_A l Z own cb ml n0 p e R s m args below meth c T h locs cells slots) {i : Nat} {v : Int32} (w : (Jvm.Cond.constant own i v).before a0 Z = true) (hd : decode cb pc = .ok (.ldc i, 2)) (hp : pc + 2 = pc') (k : own_E p e below G (T.setTop (mkF m pc' Ls (.int v :: S)))) : own_E p e below G (T.setTop (mkF m pc Ls S)) := by
  subst hp; exact own_go (X.1.ldcInt X.2.1 X.2.2.2.2.2.1 (mvT X.2.2.1 w) rfl (hb X.2.2.2.1 hd)) k
theorem own_ldc2 (X : own_A l Z own cb ml n0 p e R s m args below meth c T h locs cells slots) {i : Nat} {v : Int64} (w : (Jvm.Cond.constantLong own i v).before a0 Z = true) (hd : decode cb pc = .ok (.ldc2_w i, 3)) (hp : pc + 3 = pc') (k : own_E p e below G (T.setTop (mkF m pc' Ls (.long v :: S)))) : own_E p e below G (T.setTop (mkF m pc Ls S)) := by
  subst hp; exact own_go (X.1.ldc2Long X.2.1 X.2.2.2.2.2.1 (mvT X.2.2.1 w) rfl (hb X.2.2.2.1 hd)) k
theorem own_callS (X : own_A l Z own cb ml n0 p e R s m args below meth c T h locs cells slots) {y : MethodName} {cb' : ByteArray} {ml' : Nat} {ret' : Option FieldType} {rm : Room} {argsL st : List Value} {Q : Option Value → Heap → Prop} {i : Nat} (hC : own_Con l Z y cb' ml' ret' rm argsL.toArray h n0 Q)
    (w1 : (Jvm.Cond.methodLink own i y).before a0 Z = true) (w2 : (Jvm.Cond.static y).before a0 Z = true) (w3 : (Jvm.Cond.initialized y.cls).before a0 Z = true) (w4 : (Jvm.Cond.code y cb' ml' ret').before a0 Z = true) (hy : y.cls ≠ "java/lang/invoke/MethodHandle" ∧ y.cls ≠ "java/lang/invoke/VarHandle")
    (hf : rm.frames + 1 ≤ R.frames) (W : Nat) (hl : W + (ml' + 11) + rm.locals ≤ R.locals) (hls : Ls.size = ml) {ps : List FieldType} {r : Option FieldType} (hpd : parseMethodDescriptor y.desc = some ⟨ps, r⟩) (hlen : argsL.length = ps.length) (hst : st = argsL.reverse ++ S) (hW : (S.map fun v => v.category).sum ≤ W) (hcl : cells + rm.cells ≤ R.cells) (hsl : slots + rm.slots ≤ R.slots)
    (hd : decode cb pc = .ok (.invokestatic i, 3)) (hp : pc + 3 = pc') (k : ∀ T' h' locs' v, own_A l Z own cb ml n0 p e R s m args below meth c T' h' locs' (cells + rm.cells) (slots + rm.slots) → Q v h' → own_E p e below G (T'.setTop (mkF m pc' Ls (v.toList ++ S)))) : own_E p e below G (T.setTop (mkF m pc Ls st)) := by
  obtain ⟨X, hx, hZ, hby, hml, hown, eT, N, hsz, hlk⟩ := X
  subst hp
  obtain ⟨v, _, ⟨T', L', k', n'⟩, -, X', ⟨Lc, hQ, q1, q2, q3⟩, stp⟩ := Jvm.LawKit.callS X hx (y := y) hown (mvT hZ w1) (mvT hZ w2) (mvT hZ w3) (mvT hZ w4) hy (backOf (Q := fun v h L => Q v h ∧ Fr n0 L ∧ n0 ≤ h.size) (W := W) (hC []) hZ w4 w3 hf hl) (g := mkF m pc Ls st) rfl (by rw [hml]; exact hls) (argsL := argsL) (rest := S) (lenOf hpd hlen) hst (by show 2 * 0 + _ ≤ _; omega) (hb hby hd) (fun _ _ => ⟨rfl, eT, hcl, hsl⟩)
  dsimp only [Pt.U, Pt.locs, Pt.cells, Pt.slots] at X' q1 q2 q3 stp hQ
  subst q1 q2 q3
  exact own_go stp (k _ _ _ _ ⟨X', hx, hZ, hby, hml, hown, rfl, N.app hQ.2.1, hQ.2.2, hlk⟩ hQ.1)
theorem own_callI (X : own_A l Z own cb ml n0 p e R s m args below meth c T h locs cells slots) {y : MethodName} {cb' : ByteArray} {ml' : Nat} {rm : Room} {a : Addr} {argsL st : List Value} {Q : Option Value → Heap → Prop} {i : Nat} (hC : own_Con l Z y cb' ml' none rm (.ref a :: argsL).toArray h n0 Q) (hy1 : y.name = "<init>")
    (w1 : (Jvm.Cond.methodLink own i y).before a0 Z = true) (w2 : (Jvm.Cond.instanceMethod y).before a0 Z = true) (w3 : (Jvm.Cond.initialized y.cls).before a0 Z = true) (w4 : (Jvm.Cond.code y cb' ml' none).before a0 Z = true) (hy : y.cls ≠ "java/lang/invoke/MethodHandle" ∧ y.cls ≠ "java/lang/invoke/VarHandle")
    (hf : rm.frames + 1 ≤ R.frames) (W : Nat) (hl : W + (ml' + 11) + rm.locals ≤ R.locals) (hls : Ls.size = ml) {ps : List FieldType} {r : Option FieldType} (hpd : parseMethodDescriptor y.desc = some ⟨ps, r⟩) (hlen : argsL.length = ps.length) (hst : st = argsL.reverse ++ .ref a :: S) (hW : (S.map fun v => v.category).sum ≤ W) (hcl : cells + rm.cells ≤ R.cells) (hsl : slots + rm.slots ≤ R.slots)
    (hd : decode cb pc = .ok (.invokespecial i, 3)) (hp : pc + 3 = pc') (k : ∀ T' h' locs' v, own_A l Z own cb ml n0 p e R s m args below meth c T' h' locs' (cells + rm.cells) (slots + rm.slots) → Q v h' → own_E p e below G (T'.setTop (mkF m pc' Ls (v.toList ++ S)))) : own_E p e below G (T.setTop (mkF m pc Ls st)) := by
  obtain ⟨X, hx, hZ, hby, hml, hown, eT, N, hsz, hlk⟩ := X
  subst hp
  obtain ⟨v, _, ⟨T', L', k', n'⟩, -, X', ⟨Lc, hQ, q1, q2, q3⟩, stp⟩ := X.specialBack hx (y := y) hy1 hown (mvT hZ w1) (mvT hZ w2) (mvT hZ w4) hy (backOf (Q := fun v h L => Q v h ∧ Fr n0 L ∧ n0 ≤ h.size) (W := W) (hC []) hZ w4 w3 hf hl) (g := mkF m pc Ls st) rfl (by rw [hml]; exact hls) (Steps.refl _) (a := a) (argsL := argsL) (rest := S) (lenOf hpd hlen) hst (by show 2 * 0 + _ ≤ _; omega) (hb hby hd) (fun _ _ => ⟨rfl, eT, hcl, hsl⟩)
  dsimp only [Pt.U, Pt.locs, Pt.cells, Pt.slots] at X' q1 q2 q3 stp hQ
  subst q1 q2 q3
  exact own_go (fun _ z => stp.trans z) (k _ _ _ _ ⟨X', hx, hZ, hby, hml, hown, rfl, N.app hQ.2.1, hQ.2.2, hlk⟩ hQ.1)
theorem own_callV (X : own_A l Z own cb ml n0 p e R s m args below meth c T h locs cells slots) {y : MethodName} {C : String} {cb' : ByteArray} {ml' : Nat} {ret' : Option FieldType} {rm : Room} {a : Addr} {argsL st : List Value} {Q : Option Value → Heap → Prop} {i : Nat} (hC : own_Con l Z y cb' ml' ret' rm (.ref a :: argsL).toArray h n0 Q) (E : Exa Z h a C)
    (w1 : (Jvm.Cond.methodLink own i y).before a0 Z = true) (w2 : (Jvm.Cond.declares y).before a0 Z = true) (w5 : (Jvm.Cond.selects C y y).before a0 Z = true) (w6 : (Jvm.Cond.instanceMethod y).before a0 Z = true) (w3 : (Jvm.Cond.initialized y.cls).before a0 Z = true) (w4 : (Jvm.Cond.code y cb' ml' ret').before a0 Z = true) (hy : y.cls ≠ "java/lang/invoke/MethodHandle" ∧ y.cls ≠ "java/lang/invoke/VarHandle")
    (hf : rm.frames + 1 ≤ R.frames) (W : Nat) (hl : W + (ml' + 11) + rm.locals ≤ R.locals) (hls : Ls.size = ml) {ps : List FieldType} {r : Option FieldType} (hpd : parseMethodDescriptor y.desc = some ⟨ps, r⟩) (hlen : argsL.length = ps.length) (hst : st = argsL.reverse ++ .ref a :: S) (hW : (S.map fun v => v.category).sum ≤ W) (hcl : cells + rm.cells ≤ R.cells) (hsl : slots + rm.slots ≤ R.slots)
    (hd : decode cb pc = .ok (.invokevirtual i, 3)) (hp : pc + 3 = pc') (hC0 : y.cls = C) (k : ∀ T' h' locs' v, own_A l Z own cb ml n0 p e R s m args below meth c T' h' locs' (cells + rm.cells) (slots + rm.slots) → Q v h' → own_E p e below G (T'.setTop (mkF m pc' Ls (v.toList ++ S)))) : own_E p e below G (T.setTop (mkF m pc Ls st)) := by
  obtain ⟨X, hx, hZ, hby, hml, hown, eT, N, hsz, hlk⟩ := X
  subst hp; subst hC0
  obtain ⟨cq, kq, qa, qb, qc⟩ := isOf hZ eT E
  obtain ⟨v, _, ⟨T', L', k', n'⟩, -, X', ⟨Lc, hQ, q1, q2, q3⟩, stp⟩ := X.virtualBack hx (y := y) (z := y) hown (mvT hZ w1) (mvT hZ w2) (notFace_of_selects (args := #[]) (mvT hZ w5)) (mvT hZ w5) (mvT hZ w6) hy (backOf (Q := fun v h L => Q v h ∧ Fr n0 L ∧ n0 ≤ h.size) (W := W) (hC []) hZ w4 w3 hf hl) qa qc (g := mkF m pc Ls st) rfl (by rw [hml]; exact hls) (Steps.refl _) (argsL := argsL) (rest := S) (lenOf hpd hlen) hst (by show 2 * 0 + _ ≤ _; omega) (hb hby hd) (fun _ _ => ⟨rfl, eT, hcl, hsl⟩)
  dsimp only [Pt.U, Pt.locs, Pt.cells, Pt.slots] at X' q1 q2 q3 stp hQ
  subst q1 q2 q3
  exact own_go (fun _ z => stp.trans z) (k _ _ _ _ ⟨X', hx, hZ, hby, hml, hown, rfl, N.app hQ.2.1, hQ.2.2, hlk⟩ hQ.1)
theorem own_initO (X : own_A l Z own cb ml n0 p e R s m args below meth c T h locs cells slots) {i : Nat} {a : Addr} (w1 : (Jvm.Cond.methodLink own i Lib.objectInit).before a0 Z = true) (w2 : (Jvm.Cond.instanceMethod Lib.objectInit).before a0 Z = true) (w3 : (Jvm.Cond.code Lib.objectInit ⟨#[0xb1]⟩ 1 none).before a0 Z = true) (hls : Ls.size = ml) (hf : 1 ≤ R.frames) (W : Nat) (hW : (S.map fun v => v.category).sum ≤ W) (hl : W + 12 ≤ R.locals)
    (hd : decode cb pc = .ok (.invokespecial i, 3)) (hp : pc + 3 = pc') (k : ∀ T', own_A l Z own cb ml n0 p e R s m args below meth c T' h locs cells slots → own_E p e below G (T'.setTop (mkF m pc' Ls S))) : own_E p e below G (T.setTop (mkF m pc Ls (.ref a :: S))) := by
  obtain ⟨X, hx, hZ, hby, hml, hown, eT, N, hsz, hlk⟩ := X
  subst hp
  obtain ⟨T', X', eT', stp⟩ := initO X hx hZ hown w1 w2 w3 eT (g := mkF m pc Ls (.ref a :: S)) rfl (by rw [hml]; exact hls) rfl (hb hby hd) hf (W := W) (by show 2 * 0 + _ ≤ _; omega) hl
  exact own_go stp (k _ ⟨X', hx, hZ, hby, hml, hown, eT', N, hsz, hlk⟩)
theorem own_getF (X : own_A l Z own cb ml n0 p e R s m args below meth c T h locs cells slots) {i : Nat} {a : Addr} {C f d : String} {v : Value} (w1 : (Jvm.Cond.fieldLink own i C f d).before a0 Z = true) (F : Fld Z h a C f d v)
    (hd : decode cb pc = .ok (.getfield i, 3)) (hp : pc + 3 = pc') (k : ∀ T', own_A l Z own cb ml n0 p e R s m args below meth c T' h locs cells slots → own_E p e below G (T'.setTop (mkF m pc' Ls (v :: S)))) : own_E p e below G (T.setTop (mkF m pc Ls (.ref a :: S))) := by
  obtain ⟨X, hx, hZ, hby, hml, hown, eT, N, hsz, hlk⟩ := X
  subst hp
  obtain ⟨T', X', eT', stp⟩ := getF X hx hZ hown (host := "") (Or.inl w1) Via.refl eT F (g := mkF m pc Ls (.ref a :: S)) rfl rfl (hb hby hd)
  exact own_go stp (k _ ⟨X', hx, hZ, hby, hml, hown, eT', N, hsz, hlk⟩)
theorem own_getS (X : own_A l Z own cb ml n0 p e R s m args below meth c T h locs cells slots) {i : Nat} {C f d : String} {v : Value} (w1 : (Jvm.Cond.fieldLink own i C f d).before a0 Z = true) (F : Sta Z h C f d v)
    (hd : decode cb pc = .ok (.getstatic i, 3)) (hp : pc + 3 = pc') (k : ∀ T', own_A l Z own cb ml n0 p e R s m args below meth c T' h locs cells slots → own_E p e below G (T'.setTop (mkF m pc' Ls (v :: S)))) : own_E p e below G (T.setTop (mkF m pc Ls S)) := by
  obtain ⟨X, hx, hZ, hby, hml, hown, eT, N, hsz, hlk⟩ := X
  subst hp
  obtain ⟨T', X', eT', stp⟩ := getS2 X hx hZ hown (host := "") (Or.inl w1) Via.refl eT F (g := mkF m pc Ls S) rfl (hb hby hd)
  exact own_go stp (k _ ⟨X', hx, hZ, hby, hml, hown, eT', N, hsz, hlk⟩)
theorem own_staK {C f d : String} {v : Value} (F : Sta Z h C f d v) (K : Keep h h' []) : Sta Z h' C f d v := by
  obtain ⟨cf, i, k, f', st, cell, h1, h2, h3, h4, h5, r⟩ := F
  exact ⟨cf, i, k, f', st, cell, h1, h2, h3, h4, K.2.1 _ _ h5 (fun q => nomatch q), r⟩
theorem own_putF (X : own_A l Z own cb ml n0 p e R s m args below meth c T h locs cells slots) {i kk : Nat} {a : Addr} {C f d : String} {v old : Value} {ty : FieldType} (w1 : (Jvm.Cond.fieldLink own i C f d).before a0 Z = true) (F : Fld Z h a C f d old) (E : Exa Z h a C) (L : (Jvm.Cond.lays C C f d).before a0 Z = true ∨ ((Jvm.Cond.laysFinal C C f d).before a0 Z = true ∧ own = C ∧ meth.name = "<init>")) (wi : (Jvm.Cond.instantiable C kk).before a0 Z = true)
    (hty : parseFieldDescriptor d = some ty) (hn : narrow ty v = v) (hft : fits ty v = true) (hg : n0 ≤ a) (hd : decode cb pc = .ok (.putfield i, 3)) (hp : pc + 3 = pc')
    (k : ∀ T' h' locs', own_A l Z own cb ml n0 p e R s m args below meth c T' h' locs' cells slots → Wr h h' a (Jvm.RoadKit.slotOf Z C f d) v → Fld Z h' a C f d v → own_E p e below G (T'.setTop (mkF m pc' Ls S))) : own_E p e below G (T.setTop (mkF m pc Ls (v :: .ref a :: S))) := by
  obtain ⟨X, hx, hZ, hby, hml, hown, eT, N, hsz, hlk⟩ := X
  subst hp
  obtain ⟨T', h', X', eT', W, stp⟩ := putF X hx hZ hown (host := "") (Or.inl w1) Via.refl eT F E L wi hty hn hft (g := mkF m pc Ls (v :: .ref a :: S)) rfl rfl (hb hby hd)
  exact own_go stp (k _ _ _ ⟨X', hx, hZ, hby, hml, hown, eT', Fr.snoc X' N hg, by rw [W.size]; exact hsz, hlk⟩ W (F.same W))
theorem own_putFN (X : own_A l Z own cb ml n0 p e R s m args below meth c T h locs cells slots) {i kk : Nat} {a : Addr} {C f d : String} {v v' old : Value} {ty : FieldType} (w1 : (Jvm.Cond.fieldLink own i C f d).before a0 Z = true) (F : Fld Z h a C f d old) (E : Exa Z h a C) (L : (Jvm.Cond.lays C C f d).before a0 Z = true ∨ ((Jvm.Cond.laysFinal C C f d).before a0 Z = true ∧ own = C ∧ meth.name = "<init>")) (wi : (Jvm.Cond.instantiable C kk).before a0 Z = true)
    (hty : parseFieldDescriptor d = some ty) (hn : narrow ty v = v') (hft : fits ty v' = true) (hg : n0 ≤ a) (hd : decode cb pc = .ok (.putfield i, 3)) (hp : pc + 3 = pc')
    (k : ∀ T' h' locs', own_A l Z own cb ml n0 p e R s m args below meth c T' h' locs' cells slots → Wr h h' a (Jvm.RoadKit.slotOf Z C f d) v' → Fld Z h' a C f d v' → own_E p e below G (T'.setTop (mkF m pc' Ls S))) : own_E p e below G (T.setTop (mkF m pc Ls (v :: .ref a :: S))) := by
  obtain ⟨X, hx, hZ, hby, hml, hown, eT, N, hsz, hlk⟩ := X
  subst hp
  obtain ⟨T', h', X', eT', W, stp⟩ := putFN X hx hZ hown w1 Via.refl eT F E L wi hty hn hft (g := mkF m pc Ls (v :: .ref a :: S)) rfl rfl (hb hby hd)
  exact own_go stp (k _ _ _ ⟨X', hx, hZ, hby, hml, hown, eT', Fr.snoc X' N hg, by rw [W.size]; exact hsz, hlk⟩ W (F.same W))
theorem own_new (X : own_A l Z own cb ml n0 p e R s m args below meth c T h locs cells slots) {i n : Nat} {C : String} (w1 : (Jvm.Cond.classLink own i C).before a0 Z = true) (w2 : (Jvm.Cond.instantiable C n).before a0 Z = true) (w3 : (Jvm.Cond.initialized C).before a0 Z = true) (hc : cells + 1 ≤ R.cells) (hs : slots + n ≤ R.slots)
    (hd : decode cb pc = .ok (.new i, 3)) (hp : pc + 3 = pc') (k : ∀ T' h' a, own_A l Z own cb ml n0 p e R s m args below meth c T' h' locs (cells + 1) (slots + n) → Ext h h' → h.size = a → n0 ≤ a → Exa Z h' a C → (∀ {O nm d : String} {ty : FieldType}, Laid Z a0 C O nm d → parseFieldDescriptor d = some ty → Fld Z h' a O nm d (defaultValue ty)) → own_E p e below G (T'.setTop (mkF m pc' Ls (.ref a :: S)))) : own_E p e below G (T.setTop (mkF m pc Ls S)) := by
  obtain ⟨X, hx, hZ, hby, hml, hown, eT, N, hsz, hlk⟩ := X
  subst hp
  obtain ⟨T', h', X', eT', E', A', D', -, stp⟩ := newO X hx hZ hown w1 w2 w3 eT (g := mkF m pc Ls S) rfl (hb hby hd) hc hs
  exact own_go stp (k _ _ _ ⟨X', hx, hZ, hby, hml, hown, eT', N, Nat.le_trans hsz E'.1, hlk⟩ E' rfl hsz A' D')
/-! arrays -/
def own_V (Z : State) (h : Heap) (a : Addr) (ty : FieldType) (z : Int32) (xs : List Int32) : Prop := ∃ k, Arv Z h a k ty z (xs.map Value.int) (.int 0) ∧ xs.length = z.toNatClampNeg
def own_W (Z : State) (h : Heap) (a : Addr) (z : Int32) (xs : List Int64) : Prop := ∃ k, Arv Z h a k .long z (xs.map Value.long) (.long 0) ∧ xs.length = z.toNatClampNeg
theorem own_V.ext {a : Addr} {ty : FieldType} {z : Int32} {xs : List Int32} (V : own_V Z h a ty z xs) (E : Ext h h') : own_V Z h' a ty z xs := by obtain ⟨k, A, q⟩ := V; exact ⟨k, A.ext E, q⟩
theorem own_W.ext {a : Addr} {z : Int32} {xs : List Int64} (V : own_W Z h a z xs) (E : Ext h h') : own_W Z h' a z xs := by obtain ⟨k, A, q⟩ := V; exact ⟨k, A.ext E, q⟩
theorem own_V.other {a b : Addr} {ty : FieldType} {z : Int32} {xs : List Int32} {sl : Nat} {v : Value} (V : own_V Z h a ty z xs) (W : Wr h h' b sl v) (q : a ≠ b) : own_V Z h' a ty z xs := by obtain ⟨k, A, r⟩ := V; exact ⟨k, A.other W q, r⟩
theorem own_W.other {a b : Addr} {z : Int32} {xs : List Int64} {sl : Nat} {v : Value} (V : own_W Z h a z xs) (W : Wr h h' b sl v) (q : a ≠ b) : own_W Z h' a z xs := by obtain ⟨k, A, r⟩ := V; exact ⟨k, A.other W q, r⟩
theorem own_V.keep {a : Addr} {ty : FieldType} {z : Int32} {xs : List Int32} {ws : List Addr} (V : own_V Z h a ty z xs) (K : Keep h h' ws) (q : a ∉ ws) : own_V Z h' a ty z xs := by obtain ⟨k, A, r⟩ := V; exact ⟨k, A.keep K q, r⟩
theorem own_W.keep {a : Addr} {z : Int32} {xs : List Int64} {ws : List Addr} (V : own_W Z h a z xs) (K : Keep h h' ws) (q : a ∉ ws) : own_W Z h' a z xs := by obtain ⟨k, A, r⟩ := V; exact ⟨k, A.keep K q, r⟩
theorem own_V.lt {a : Addr} {ty : FieldType} {z : Int32} {xs : List Int32} (V : own_V Z h a ty z xs) : a < h.size := by obtain ⟨k, A, r⟩ := V; exact A.lt
theorem own_W.lt {a : Addr} {z : Int32} {xs : List Int64} (V : own_W Z h a z xs) : a < h.size := by obtain ⟨k, A, r⟩ := V; exact A.lt
theorem own_V.len {a : Addr} {ty : FieldType} {z : Int32} {xs : List Int32} (V : own_V Z h a ty z xs) : xs.length = z.toNatClampNeg := by obtain ⟨k, A, r⟩ := V; exact r
theorem own_W.len {a : Addr} {z : Int32} {xs : List Int64} (V : own_W Z h a z xs) : xs.length = z.toNatClampNeg := by obtain ⟨k, A, r⟩ := V; exact r
theorem own_V.cast {a : Addr} {ty : FieldType} {z : Int32} {xs ys : List Int32} (V : own_V Z h a ty z xs) (q : xs = ys) : own_V Z h a ty z ys := q ▸ V
theorem own_W.cast {a : Addr} {z : Int32} {xs ys : List Int64} (V : own_W Z h a z xs) (q : xs = ys) : own_W Z h a z ys := q ▸ V
theorem own_cast (X : own_A l Z own cb ml n0 p e R s m args below meth c T h locs cells slots) {i : Nat} {a : Addr} {C : String} (w1 : (Jvm.Cond.classLink own i C).before a0 Z = true) (I : Ins Z h a C true)
    (hd : decode cb pc = .ok (.checkcast i, 3)) (hp : pc + 3 = pc') (k : ∀ T', own_A l Z own cb ml n0 p e R s m args below meth c T' h locs cells slots → own_E p e below G (T'.setTop (mkF m pc' Ls (.ref a :: S)))) : own_E p e below G (T.setTop (mkF m pc Ls (.ref a :: S))) := by
  obtain ⟨X, hx, hZ, hby, hml, hown, eT, N, hsz, hlk⟩ := X
  subst hp
  obtain ⟨T', X', eT', stp⟩ := castY X hx hZ hown w1 eT I (g := mkF m pc Ls (.ref a :: S)) rfl rfl (hb hby hd)
  exact own_go stp (k _ ⟨X', hx, hZ, hby, hml, hown, eT', N, hsz, hlk⟩)
theorem own_V.nn {a : Addr} {ty : FieldType} {z : Int32} {xs : List Int32} (V : own_V Z h a ty z xs) : ¬ z < 0 := by obtain ⟨k, ⟨cl, A, q1, q2, q3, r⟩, r'⟩ := V; exact q3
theorem own_idx {j z : Int32} {n : Nat} (q : n = z.toNatClampNeg) (h0 : ¬ j < 0) (h1 : j < z) : j.toNatClampNeg < n := by
  subst q
  rw [Int32.lt_iff_toInt_lt] at h0 h1
  have e0 : (0 : Int32).toInt = 0 := rfl
  simp only [Int32.toNatClampNeg]; omega
theorem own_mapI (xs : List Int32) (i : Nat) : (xs.map Value.int).getD i (.int 0) = .int (xs.getD i 0) := by
  simp only [List.getD_eq_getElem?_getD, List.getElem?_map]; cases xs[i]? <;> rfl
theorem own_mapL (xs : List Int64) (i : Nat) : (xs.map Value.long).getD i (.long 0) = .long (xs.getD i 0) := by
  simp only [List.getD_eq_getElem?_getD, List.getElem?_map]; cases xs[i]? <;> rfl
theorem own_newV (X : own_A l Z own cb ml n0 p e R s m args below meth c T h locs cells slots) {aty : ArrayType} {ty : FieldType} {n : Int32} (hty : newarray.typeOf aty = ty) (hdv : defaultValue ty = .int 0) (w : (Jvm.Cond.arrayClass ty).before a0 Z = true) (hn : ¬ n < 0) (cap : Nat) (hcap : n.toNatClampNeg ≤ cap) (hb8 : cap * 8 ≤ 536870912) (hc : cells + 1 ≤ R.cells) (hs : slots + cap ≤ R.slots)
    (hd : decode cb pc = .ok (.newarray aty, 2)) (hp : pc + 2 = pc') (k : ∀ T' h' a, own_A l Z own cb ml n0 p e R s m args below meth c T' h' locs (cells + 1) (slots + cap) → Ext h h' → h.size = a → n0 ≤ a → own_V Z h' a ty n (List.replicate n.toNatClampNeg 0) → own_E p e below G (T'.setTop (mkF m pc' Ls (.ref a :: S)))) : own_E p e below G (T.setTop (mkF m pc Ls (.int n :: S))) := by
  obtain ⟨X, hx, hZ, hby, hml, hown, eT, N, hsz, hlk⟩ := X
  subst hp; subst hty
  obtain ⟨T', h', cA, X', eT', E', A', stp⟩ := newP X hx hZ w eT (g := mkF m pc Ls (.int n :: S)) rfl (hb hby hd) rfl hn (cap := cap) hcap hb8 hc hs
  refine own_go stp (k _ _ _ ⟨X', hx, hZ, hby, hml, hown, eT', N, Nat.le_trans hsz E'.1, hlk⟩ E' rfl hsz ⟨cA, ?_, by simp⟩)
  have V := Arv.new A' hn
  rw [hdv] at V
  refine V.pad fun i => ?_
  rw [List.map_replicate]
  exact pad_rep [] (.int 0) n.toNatClampNeg i
theorem own_newW (X : own_A l Z own cb ml n0 p e R s m args below meth c T h locs cells slots) {n : Int32} (w : (Jvm.Cond.arrayClass .long).before a0 Z = true) (hn : ¬ n < 0) (cap : Nat) (hcap : n.toNatClampNeg ≤ cap) (hb8 : cap * 8 ≤ 536870912) (hc : cells + 1 ≤ R.cells) (hs : slots + cap ≤ R.slots)
    (hd : decode cb pc = .ok (.newarray .long, 2)) (hp : pc + 2 = pc') (k : ∀ T' h' a, own_A l Z own cb ml n0 p e R s m args below meth c T' h' locs (cells + 1) (slots + cap) → Ext h h' → h.size = a → n0 ≤ a → own_W Z h' a n (List.replicate n.toNatClampNeg 0) → own_E p e below G (T'.setTop (mkF m pc' Ls (.ref a :: S)))) : own_E p e below G (T.setTop (mkF m pc Ls (.int n :: S))) := by
  obtain ⟨X, hx, hZ, hby, hml, hown, eT, N, hsz, hlk⟩ := X
  subst hp
  obtain ⟨T', h', cA, X', eT', E', A', stp⟩ := newP X hx hZ (aty := .long) w eT (g := mkF m pc Ls (.int n :: S)) rfl (hb hby hd) rfl hn (cap := cap) hcap hb8 hc hs
  refine own_go stp (k _ _ _ ⟨X', hx, hZ, hby, hml, hown, eT', N, Nat.le_trans hsz E'.1, hlk⟩ E' rfl hsz ⟨cA, ?_, by simp⟩)
  have V := Arv.new A' hn
  refine V.pad fun i => ?_
  rw [List.map_replicate]
  exact pad_rep [] (.long 0) n.toNatClampNeg i
theorem own_bastore (X : own_A l Z own cb ml n0 p e R s m args below meth c T h locs cells slots) {a : Addr} {z j x y : Int32} {xs : List Int32} (V : own_V Z h a .byte z xs) (hg : n0 ≤ a) (hy : nar .byte x = y) (i : Nat) (hj : j.toNatClampNeg = i) (h0 : ¬ j < 0) (h1 : j < z)
    (hd : decode cb pc = .ok (.bastore, 1)) (hp : pc + 1 = pc') (k : ∀ T' h' locs', own_A l Z own cb ml n0 p e R s m args below meth c T' h' locs' cells slots → Wr h h' a j.toNatClampNeg (.int y) → own_V Z h' a .byte z (xs.set i y) → own_E p e below G (T'.setTop (mkF m pc' Ls S))) : own_E p e below G (T.setTop (mkF m pc Ls (.int x :: .int j :: .ref a :: S))) := by
  obtain ⟨X, hx, hZ, hby, hml, hown, eT, N, hsz, hlk⟩ := X
  obtain ⟨kc, ⟨cl, A, q1, q2, q3, H, F⟩, hlen⟩ := V
  subst hp; subst hy
  obtain ⟨T', h', X', eT', W, stp⟩ := stB X hx hZ eT A (j := j) (x := x) (inb_of q2 ⟨h0, h1⟩) (g := mkF m pc Ls (.int x :: .int j :: .ref a :: S)) rfl rfl (hb hby hd)
  refine own_go stp (k _ _ _ ⟨X', hx, hZ, hby, hml, hown, eT', Fr.snoc X' N hg, by rw [W.size]; exact hsz, hlk⟩ W ⟨kc, ?_, by rw [List.length_set]; exact hlen⟩)
  rw [List.map_set]
  exact Arv.set A q1 q2 q3 H F (fits_nar_byte _) W i hj (by rw [List.length_map, ← hj]; exact own_idx hlen h0 h1)
theorem own_iastore (X : own_A l Z own cb ml n0 p e R s m args below meth c T h locs cells slots) {a : Addr} {z j w x : Int32} {xs : List Int32} (V : own_V Z h a .int z xs) (hg : n0 ≤ a) (hy : w = x) (i : Nat) (hj : j.toNatClampNeg = i) (h0 : ¬ j < 0) (h1 : j < z)
    (hd : decode cb pc = .ok (.iastore, 1)) (hp : pc + 1 = pc') (k : ∀ T' h' locs', own_A l Z own cb ml n0 p e R s m args below meth c T' h' locs' cells slots → Wr h h' a j.toNatClampNeg (.int x) → own_V Z h' a .int z (xs.set i x) → own_E p e below G (T'.setTop (mkF m pc' Ls S))) : own_E p e below G (T.setTop (mkF m pc Ls (.int w :: .int j :: .ref a :: S))) := by
  obtain ⟨X, hx, hZ, hby, hml, hown, eT, N, hsz, hlk⟩ := X
  obtain ⟨kc, ⟨cl, A, q1, q2, q3, H, F⟩, hlen⟩ := V
  subst hp; subst hy
  obtain ⟨T', h', X', eT', W, stp⟩ := stI X hx hZ eT A (j := j) (x := w) (inb_of q2 ⟨h0, h1⟩) (g := mkF m pc Ls (.int w :: .int j :: .ref a :: S)) rfl rfl (hb hby hd)
  refine own_go stp (k _ _ _ ⟨X', hx, hZ, hby, hml, hown, eT', Fr.snoc X' N hg, by rw [W.size]; exact hsz, hlk⟩ W ⟨kc, ?_, by rw [List.length_set]; exact hlen⟩)
  rw [List.map_set]
  exact Arv.set A q1 q2 q3 H F rfl W i hj (by rw [List.length_map, ← hj]; exact own_idx hlen h0 h1)
theorem own_lastore (X : own_A l Z own cb ml n0 p e R s m args below meth c T h locs cells slots) {a : Addr} {z j : Int32} {w x : Int64} {xs : List Int64} (V : own_W Z h a z xs) (hg : n0 ≤ a) (hy : w = x) (i : Nat) (hj : j.toNatClampNeg = i) (h0 : ¬ j < 0) (h1 : j < z)
    (hd : decode cb pc = .ok (.lastore, 1)) (hp : pc + 1 = pc') (k : ∀ T' h' locs', own_A l Z own cb ml n0 p e R s m args below meth c T' h' locs' cells slots → Wr h h' a j.toNatClampNeg (.long x) → own_W Z h' a z (xs.set i x) → own_E p e below G (T'.setTop (mkF m pc' Ls S))) : own_E p e below G (T.setTop (mkF m pc Ls (.long w :: .int j :: .ref a :: S))) := by
  obtain ⟨X, hx, hZ, hby, hml, hown, eT, N, hsz, hlk⟩ := X
  obtain ⟨kc, ⟨cl, A, q1, q2, q3, H, F⟩, hlen⟩ := V
  subst hp; subst hy
  obtain ⟨T', h', X', eT', W, stp⟩ := stJ X hx hZ eT A (j := j) (x := w) (inb_of q2 ⟨h0, h1⟩) (g := mkF m pc Ls (.long w :: .int j :: .ref a :: S)) rfl rfl (hb hby hd)
  refine own_go stp (k _ _ _ ⟨X', hx, hZ, hby, hml, hown, eT', Fr.snoc X' N hg, by rw [W.size]; exact hsz, hlk⟩ W ⟨kc, ?_, by rw [List.length_set]; exact hlen⟩)
  rw [List.map_set]
  exact Arv.set A q1 q2 q3 H F rfl W i hj (by rw [List.length_map, ← hj]; exact own_idx hlen h0 h1)
theorem own_baload (X : own_A l Z own cb ml n0 p e R s m args below meth c T h locs cells slots) {a : Addr} {z j y : Int32} {xs : List Int32} (V : own_V Z h a .byte z xs) (h0 : ¬ j < 0) (h1 : j < z) (hy : xs.getD j.toNatClampNeg 0 = y) (hd : decode cb pc = .ok (.baload, 1)) (hp : pc + 1 = pc') (k : own_E p e below G (T.setTop (mkF m pc' Ls (.int y :: S)))) : own_E p e below G (T.setTop (mkF m pc Ls (.int j :: .ref a :: S))) := by
  obtain ⟨X, hx, hZ, hby, hml, hown, eT, N, hsz, hlk⟩ := X
  obtain ⟨kc, ⟨cl, A, q1, q2, q3, H, F⟩, hlen⟩ := V
  subst hp
  have hin := inb_of q2 (j := j) ⟨h0, h1⟩
  exact own_go (X.baloadBytes hx (j := j) (v := .int y) (by rw [eT]; exact A.1) (State.isArrayOf_alike hZ.alike A.2.1) A.2.2 hin (H.at hin (by rw [own_mapI, hy])) (g := mkF m pc Ls (.int j :: .ref a :: S)) rfl rfl (hb hby hd)) k
theorem own_iaload (X : own_A l Z own cb ml n0 p e R s m args below meth c T h locs cells slots) {a : Addr} {z j y : Int32} {xs : List Int32} (V : own_V Z h a .int z xs) (h0 : ¬ j < 0) (h1 : j < z) (hy : xs.getD j.toNatClampNeg 0 = y) (hd : decode cb pc = .ok (.iaload, 1)) (hp : pc + 1 = pc') (k : own_E p e below G (T.setTop (mkF m pc' Ls (.int y :: S)))) : own_E p e below G (T.setTop (mkF m pc Ls (.int j :: .ref a :: S))) := by
  obtain ⟨X, hx, hZ, hby, hml, hown, eT, N, hsz, hlk⟩ := X
  obtain ⟨kc, ⟨cl, A, q1, q2, q3, H, F⟩, hlen⟩ := V
  subst hp
  have hin := inb_of q2 (j := j) ⟨h0, h1⟩
  exact own_go (X.iaload hx (j := j) (v := .int y) (by rw [eT]; exact A.1) (State.isArrayOf_alike hZ.alike A.2.1) A.2.2 hin (H.at hin (by rw [own_mapI, hy])) (g := mkF m pc Ls (.int j :: .ref a :: S)) rfl rfl (hb hby hd)) k
theorem own_laload (X : own_A l Z own cb ml n0 p e R s m args below meth c T h locs cells slots) {a : Addr} {z j : Int32} {y : Int64} {xs : List Int64} (V : own_W Z h a z xs) (h0 : ¬ j < 0) (h1 : j < z) (hy : xs.getD j.toNatClampNeg 0 = y) (hd : decode cb pc = .ok (.laload, 1)) (hp : pc + 1 = pc') (k : own_E p e below G (T.setTop (mkF m pc' Ls (.long y :: S)))) : own_E p e below G (T.setTop (mkF m pc Ls (.int j :: .ref a :: S))) := by
  obtain ⟨X, hx, hZ, hby, hml, hown, eT, N, hsz, hlk⟩ := X
  obtain ⟨kc, ⟨cl, A, q1, q2, q3, H, F⟩, hlen⟩ := V
  subst hp
  have hin := inb_of q2 (j := j) ⟨h0, h1⟩
  exact own_go (X.laload hx (j := j) (v := .long y) (by rw [eT]; exact A.1) (State.isArrayOf_alike hZ.alike A.2.1) A.2.2 hin (H.at hin (by rw [own_mapL, hy])) (g := mkF m pc Ls (.int j :: .ref a :: S)) rfl rfl (hb hby hd)) k
theorem own_alen (X : own_A l Z own cb ml n0 p e R s m args below meth c T h locs cells slots) {a : Addr} {z : Int32} {ty : FieldType} {xs : List Int32} (V : own_V Z h a ty z xs) (hd : decode cb pc = .ok (.arraylength, 1)) (hp : pc + 1 = pc') (k : own_E p e below G (T.setTop (mkF m pc' Ls (.int z :: S)))) : own_E p e below G (T.setTop (mkF m pc Ls (.ref a :: S))) := by
  obtain ⟨X, hx, hZ, hby, hml, hown, eT, N, hsz, hlk⟩ := X
  obtain ⟨kc, ⟨cl, A, q1, q2, q3, H, F⟩, hlen⟩ := V
  subst hp
  refine own_go (X.arraylength hx (by rw [eT]; exact A.1) (State.isArrayOf_alike hZ.alike A.2.1) (g := mkF m pc Ls (.ref a :: S)) rfl rfl (hb hby hd)) ?_
  rw [len_of q2 q3]; exact k
end OwnKit
/-! OWN NUMBERS -/
theorem own_adL {a b : Int64} (h1 : -9223372036854775808 ≤ a.toInt + b.toInt) (h2 : a.toInt + b.toInt < 9223372036854775808) : (a + b).toInt = a.toInt + b.toInt := by
  rw [Int64.toInt_add]; exact Int.bmod_eq_of_le_mul_two (by omega) (by omega)
theorem own_sbL {a b : Int64} (h1 : -9223372036854775808 ≤ a.toInt - b.toInt) (h2 : a.toInt - b.toInt < 9223372036854775808) : (a - b).toInt = a.toInt - b.toInt := by
  rw [Int64.toInt_sub]; exact Int.bmod_eq_of_le_mul_two (by omega) (by omega)
theorem own_mlL {a b : Int64} (h1 : -9223372036854775808 ≤ a.toInt * b.toInt) (h2 : a.toInt * b.toInt < 9223372036854775808) : (a * b).toInt = a.toInt * b.toInt := by
  rw [Int64.toInt_mul]; exact Int.bmod_eq_of_le_mul_two (by omega) (by omega)
theorem own_ad {a b : Int32} (h1 : -2147483648 ≤ a.toInt + b.toInt) (h2 : a.toInt + b.toInt < 2147483648) : (a + b).toInt = a.toInt + b.toInt := by
  rw [Int32.toInt_add]; exact Int.bmod_eq_of_le_mul_two (by omega) (by omega)
theorem own_sb {a b : Int32} (h1 : -2147483648 ≤ a.toInt - b.toInt) (h2 : a.toInt - b.toInt < 2147483648) : (a - b).toInt = a.toInt - b.toInt := by
  rw [Int32.toInt_sub]; exact Int.bmod_eq_of_le_mul_two (by omega) (by omega)
theorem own_ml {a b : Int32} (h1 : -2147483648 ≤ a.toInt * b.toInt) (h2 : a.toInt * b.toInt < 2147483648) : (a * b).toInt = a.toInt * b.toInt := by
  rw [Int32.toInt_mul]; exact Int.bmod_eq_of_le_mul_two (by omega) (by omega)
theorem own_dvL {a b : Int64} (h0 : 0 ≤ a.toInt) (h1 : 0 < b.toInt) : (a / b).toInt = a.toInt / b.toInt := by
  rw [Int64.toInt_div, Int.tdiv_eq_ediv_of_nonneg h0]
  have := Int64.toInt_lt a
  have h2 : a.toInt / b.toInt ≤ a.toInt := Int.ediv_le_self _ h0
  have h3 : 0 ≤ a.toInt / b.toInt := Int.ediv_nonneg h0 (by omega)
  exact Int.bmod_eq_of_le_mul_two (by omega) (by omega)
theorem own_dv {a b : Int32} (h0 : 0 ≤ a.toInt) (h1 : 0 < b.toInt) : (a / b).toInt = a.toInt / b.toInt := by
  rw [Int32.toInt_div, Int.tdiv_eq_ediv_of_nonneg h0]
  have := Int32.toInt_lt a
  have h2 : a.toInt / b.toInt ≤ a.toInt := Int.ediv_le_self _ h0
  have h3 : 0 ≤ a.toInt / b.toInt := Int.ediv_nonneg h0 (by omega)
  exact Int.bmod_eq_of_le_mul_two (by omega) (by omega)
theorem own_rmL {a b : Int64} (h0 : 0 ≤ a.toInt) : (a % b).toInt = a.toInt % b.toInt := by
  rw [Int64.toInt_mod, Int.tmod_eq_emod_of_nonneg h0]
theorem own_rm {a b : Int32} (h0 : 0 ≤ a.toInt) : (a % b).toInt = a.toInt % b.toInt := by
  rw [Int32.toInt_mod, Int.tmod_eq_emod_of_nonneg h0]
theorem own_ltL {a b : Int64} : a < b ↔ a.toInt < b.toInt := Int64.lt_iff_toInt_lt
theorem own_lt {a b : Int32} : a < b ↔ a.toInt < b.toInt := Int32.lt_iff_toInt_lt
theorem own_eqL {a b : Int64} : a = b ↔ a.toInt = b.toInt := Int64.toInt_inj.symm
theorem own_eq {a b : Int32} : a = b ↔ a.toInt = b.toInt := Int32.toInt_inj.symm
theorem own_mkL {a b : Int64} {k : Nat} (hk : k < 64) (hb : b.toBitVec.toNat = 2 ^ k - 1) : (a &&& b).toInt = a.toInt % (2 ^ k : Nat) := by
  have e : (a &&& b).toBitVec.toNat = a.toBitVec.toNat % 2 ^ k := by rw [Int64.toBitVec_and, BitVec.toNat_and, hb, Nat.and_two_pow_sub_one_eq_mod]
  have hlt : a.toBitVec.toNat % 2 ^ k < 2 ^ 63 := Nat.lt_of_lt_of_le (Nat.mod_lt _ (Nat.two_pow_pos k)) (Nat.pow_le_pow_right (by decide) (by omega))
  have e2 : (a &&& b).toInt = ((a.toBitVec.toNat % 2 ^ k : Nat) : Int) := by
    show (a &&& b).toBitVec.toInt = _
    rw [BitVec.toInt_eq_toNat_cond, e, if_pos (by omega)]
  rw [e2]
  show _ = a.toBitVec.toInt % _
  rw [BitVec.toInt_eq_toNat_cond]
  have hd : ((2 ^ 64 : Nat) : Int) % ((2 ^ k : Nat) : Int) = 0 := by
    rw [← Int.natCast_emod, Nat.mod_eq_zero_of_dvd (Nat.pow_dvd_pow 2 (by omega))]; rfl
  split
  · rw [Int.natCast_emod]
  · rw [Int.sub_emod, hd, Int.sub_zero, Int.emod_emod_of_dvd _ (Int.dvd_refl _), Int.natCast_emod]
theorem own_mk {a b : Int32} {k : Nat} (hk : k < 32) (hb : b.toBitVec.toNat = 2 ^ k - 1) : (a &&& b).toInt = a.toInt % (2 ^ k : Nat) := by
  have e : (a &&& b).toBitVec.toNat = a.toBitVec.toNat % 2 ^ k := by rw [Int32.toBitVec_and, BitVec.toNat_and, hb, Nat.and_two_pow_sub_one_eq_mod]
  have hlt : a.toBitVec.toNat % 2 ^ k < 2 ^ 31 := Nat.lt_of_lt_of_le (Nat.mod_lt _ (Nat.two_pow_pos k)) (Nat.pow_le_pow_right (by decide) (by omega))
  have e2 : (a &&& b).toInt = ((a.toBitVec.toNat % 2 ^ k : Nat) : Int) := by
    show (a &&& b).toBitVec.toInt = _
    rw [BitVec.toInt_eq_toNat_cond, e, if_pos (by omega)]
  rw [e2]
  show _ = a.toBitVec.toInt % _
  rw [BitVec.toInt_eq_toNat_cond]
  have hd : ((2 ^ 32 : Nat) : Int) % ((2 ^ k : Nat) : Int) = 0 := by
    rw [← Int.natCast_emod, Nat.mod_eq_zero_of_dvd (Nat.pow_dvd_pow 2 (by omega))]; rfl
  split
  · rw [Int.natCast_emod]
  · rw [Int.sub_emod, hd, Int.sub_zero, Int.emod_emod_of_dvd _ (Int.dvd_refl _), Int.natCast_emod]
theorem own_AL {a b : Int64} {x y : Int} (ha : a.toInt = x) (hb : b.toInt = y) (h1 : -9223372036854775808 ≤ x + y) (h2 : x + y < 9223372036854775808) : (a + b).toInt = x + y := by subst ha hb; exact own_adL h1 h2
theorem own_SL {a b : Int64} {x y : Int} (ha : a.toInt = x) (hb : b.toInt = y) (h1 : -9223372036854775808 ≤ x - y) (h2 : x - y < 9223372036854775808) : (a - b).toInt = x - y := by subst ha hb; exact own_sbL h1 h2
theorem own_ML {a b : Int64} {x y : Int} (ha : a.toInt = x) (hb : b.toInt = y) (h1 : -9223372036854775808 ≤ x * y) (h2 : x * y < 9223372036854775808) : (a * b).toInt = x * y := by subst ha hb; exact own_mlL h1 h2
theorem own_DL {a b : Int64} {x y : Int} (ha : a.toInt = x) (hb : b.toInt = y) (h1 : 0 ≤ x) (h2 : 0 < y) : (a / b).toInt = x / y := by subst ha hb; exact own_dvL h1 h2
theorem own_RL {a b : Int64} {x y : Int} (ha : a.toInt = x) (hb : b.toInt = y) (h1 : 0 ≤ x) : (a % b).toInt = x % y := by subst ha hb; exact own_rmL h1
theorem own_AI {a b : Int32} {x y : Int} (ha : a.toInt = x) (hb : b.toInt = y) (h1 : -2147483648 ≤ x + y) (h2 : x + y < 2147483648) : (a + b).toInt = x + y := by subst ha hb; exact own_ad h1 h2
theorem own_SI {a b : Int32} {x y : Int} (ha : a.toInt = x) (hb : b.toInt = y) (h1 : -2147483648 ≤ x - y) (h2 : x - y < 2147483648) : (a - b).toInt = x - y := by subst ha hb; exact own_sb h1 h2
theorem own_MI {a b : Int32} {x y : Int} (ha : a.toInt = x) (hb : b.toInt = y) (h1 : -2147483648 ≤ x * y) (h2 : x * y < 2147483648) : (a * b).toInt = x * y := by subst ha hb; exact own_ml h1 h2
theorem own_DI {a b : Int32} {x y : Int} (ha : a.toInt = x) (hb : b.toInt = y) (h1 : 0 ≤ x) (h2 : 0 < y) : (a / b).toInt = x / y := by subst ha hb; exact own_dv h1 h2
theorem own_RI {a b : Int32} {x y : Int} (ha : a.toInt = x) (hb : b.toInt = y) (h1 : 0 ≤ x) : (a % b).toInt = x % y := by subst ha hb; exact own_rm h1
theorem own_pos {z : Int32} (h : ¬ z < 0) (h1 : ¬ z = 0) : (0 : Int32) < z := by
  have e0 : (0 : Int32).toInt = 0 := rfl
  rw [own_lt] at *; rw [own_eq] at h1; omega
theorem own_last {z : Int32} (h : (0 : Int32) < z) : ¬ z - 1 < 0 ∧ z - 1 < z := by
  have e0 : (0 : Int32).toInt = 0 := rfl
  have e1 : (1 : Int32).toInt = 1 := rfl
  have hl := Int32.toInt_lt z
  rw [own_lt] at h
  have a : (z - 1).toInt = z.toInt - 1 := own_SI rfl e1 (by omega) (by omega)
  rw [own_lt, own_lt]; omega
theorem own_gs {α : Type} (l : List α) (i j : Nat) (v d : α) (hi : i < l.length) : (l.set i v).getD j d = if i = j then v else l.getD j d := by
  simp only [List.getD_eq_getElem?_getD]
  by_cases h : i = j
  · subst h; rw [if_pos rfl, List.getElem?_set_self hi]; rfl
  · rw [if_neg h, List.getElem?_set_ne h]
theorem own_cl {n : Int32} {k : Int} (h : n.toInt = k) : n.toNatClampNeg = k.toNat := by subst h; rfl
theorem own_b8 {t : Int32} (h0 : -128 ≤ t.toInt) (h1 : t.toInt < 128) : t.toInt8.toInt32 = t := by
  rw [own_eq, Int8.toInt_toInt32, Int32.toInt_toInt8]
  exact Int.bmod_eq_of_le_mul_two (by omega) (by omega)
theorem own_i8 {t : Int32} {x : Int} (h : t.toInt = x) : (t.toInt8.toInt32).toInt = (x + 128) % 256 - 128 := by
  subst h
  rw [Int8.toInt_toInt32, Int32.toInt_toInt8, Int.bmod_def]
  split <;> omega
theorem own_shrI {a b : Int32} {x : Int} {k : Nat} (h : a.toInt = x) (hb : (b.toBitVec.smod (BitVec.ofNat 32 32)).toNat = k) : (a >>> b).toInt = x / (2 ^ k : Nat) := by
  subst h; subst hb
  show (a.toBitVec.sshiftRight' (b.toBitVec.smod (BitVec.ofNat 32 32))).toInt = _
  rw [BitVec.toInt_sshiftRight', Int.shiftRight_eq_div_pow]; rfl
theorem own_shlI {a b : Int32} {x : Int} {k : Nat} (h : a.toInt = x) (hb : (b.toBitVec.smod (BitVec.ofNat 32 32)).toNat = k) (h1 : -2147483648 ≤ x * (2 ^ k : Nat)) (h2 : x * (2 ^ k : Nat) < 2147483648) : (a <<< b).toInt = x * (2 ^ k : Nat) := by
  subst h; subst hb
  show (a.toBitVec <<< (b.toBitVec.smod (BitVec.ofNat 32 32))).toInt = a.toBitVec.toInt * _
  rw [BitVec.shiftLeft_eq', BitVec.toInt_shiftLeft, Nat.shiftLeft_eq, BitVec.toInt_eq_toNat_bmod]
  rw [show ((a.toBitVec.toNat * 2 ^ (b.toBitVec.smod (BitVec.ofNat 32 32)).toNat : Nat) : Int) = (a.toBitVec.toNat : Int) * ((2 ^ (b.toBitVec.smod (BitVec.ofNat 32 32)).toNat : Nat) : Int) from by simp]
  rw [← Int.bmod_mul_bmod]
  have e : ((a.toBitVec.toNat : Int).bmod (2 ^ 32)) = a.toInt := (BitVec.toInt_eq_toNat_bmod _).symm
  rw [e]
  exact Int.bmod_eq_of_le_mul_two (by omega) (by omega)
theorem own_orI {a b : Int32} {x y : Int} (k : Nat) (ha : a.toInt = x) (hb : b.toInt = y) (hk : k ≤ 31) (hx : x % (2 ^ k : Nat) = 0) (h0 : 0 ≤ y) (h1 : y < (2 ^ k : Nat)) (h2 : 0 ≤ x) : (a ||| b).toInt = x + y := by
  have la := a.toBitVec.isLt; have lb := b.toBitVec.isLt
  have na : (a.toBitVec.toNat : Int) = x := by
    have : a.toBitVec.toInt = x := ha
    rw [BitVec.toInt_eq_toNat_cond] at this; split at this <;> omega
  have nb : (b.toBitVec.toNat : Int) = y := by
    have : b.toBitVec.toInt = y := hb
    rw [BitVec.toInt_eq_toNat_cond] at this; split at this <;> omega
  have hm : a.toBitVec.toNat % 2 ^ k = 0 := by
    have : ((a.toBitVec.toNat % 2 ^ k : Nat) : Int) = 0 := by rw [Int.natCast_emod, na]; exact hx
    omega
  have hl : b.toBitVec.toNat < 2 ^ k := by omega
  have ho : a.toBitVec.toNat ||| b.toBitVec.toNat = a.toBitVec.toNat + b.toBitVec.toNat := by
    have hd : a.toBitVec.toNat = 2 ^ k * (a.toBitVec.toNat / 2 ^ k) := by
      have := Nat.div_add_mod a.toBitVec.toNat (2 ^ k); omega
    rw [hd, Nat.two_pow_add_eq_or_of_lt hl]
  have q : (a ||| b).toBitVec.toNat = a.toBitVec.toNat + b.toBitVec.toNat := by rw [Int32.toBitVec_or, BitVec.toNat_or, ho]
  have hA : a.toBitVec.toNat < 2 ^ 31 := by
    have : a.toBitVec.toInt = x := ha
    rw [BitVec.toInt_eq_toNat_cond] at this; split at this <;> omega
  have hB : b.toBitVec.toNat < 2 ^ 31 := by
    have : b.toBitVec.toInt = y := hb
    rw [BitVec.toInt_eq_toNat_cond] at this; split at this <;> omega
  have hS : a.toBitVec.toNat + b.toBitVec.toNat < 2 ^ 31 := by rw [← ho]; exact Nat.or_lt_two_pow hA hB
  show (a ||| b).toBitVec.toInt = _
  rw [BitVec.toInt_eq_toNat_cond, q, if_pos (by omega)]
  omega
theorem own_yes {c : Prop} [d : Decidable c] {a b r : Int32} (h : c) (h2 : a = r) : (if c then a else b) = r := (if_pos h).trans h2
theorem own_no {c : Prop} [d : Decidable c] {a b r : Int32} (h : ¬ c) (h2 : b = r) : (if c then a else b) = r := (if_neg h).trans h2
/-! OWN WORDS: 64-bit words as natural numbers -/
def own_U (v : Int64) : Nat := v.toBitVec.toNat
theorem own_U_lt (v : Int64) : own_U v < 18446744073709551616 := v.toBitVec.isLt
theorem own_U_inj {a b : Int64} (h : own_U a = own_U b) : a = b := Int64.toBitVec_inj.mp (BitVec.eq_of_toNat_eq h)
theorem own_U_add (a b : Int64) : own_U (a + b) = (own_U a + own_U b) % 18446744073709551616 := by
  show (a + b).toBitVec.toNat = _
  rw [Int64.toBitVec_add, BitVec.toNat_add]; rfl
theorem own_U_sub (a b : Int64) : own_U (a - b) = (18446744073709551616 - own_U b + own_U a) % 18446744073709551616 := by
  show (a - b).toBitVec.toNat = _
  rw [Int64.toBitVec_sub, BitVec.toNat_sub]; rfl
theorem own_U_lo (v : Int64) : own_U (v &&& (4294967295 : Int64)) = own_U v % 4294967296 := by
  show (v &&& (4294967295 : Int64)).toBitVec.toNat = _
  rw [Int64.toBitVec_and, BitVec.toNat_and]
  exact Nat.and_two_pow_sub_one_eq_mod v.toBitVec.toNat 32
theorem own_U_hi (v : Int64) : own_U ((v.toUInt64 >>> (32 : UInt64)).toInt64) = own_U v / 4294967296 := by
  show (v.toBitVec >>> 32).toNat = _
  rw [BitVec.toNat_ushiftRight, Nat.shiftRight_eq_div_pow]; rfl
theorem own_U_int (v : Int64) : v.toInt = if own_U v < 9223372036854775808 then (own_U v : Int) else (own_U v : Int) - 18446744073709551616 := by
  show v.toBitVec.toInt = _
  rw [BitVec.toInt_eq_toNat_cond]
  show (if 2 * own_U v < 2 ^ 64 then (own_U v : Int) else (own_U v : Int) - (2 ^ 64 : Nat)) = _
  split <;> split <;> omega
theorem own_d1_0 : decode prog_65_method_9_code 0 = .ok (.aload_n 2, 1) := by decide +kernel
theorem own_d1_1 : decode prog_65_method_9_code 1 = .ok (.iload_n 3, 1) := by decide +kernel
theorem own_d1_2 : decode prog_65_method_9_code 2 = .ok (.laload, 1) := by decide +kernel
theorem own_d1_3 : decode prog_65_method_9_code 3 = .ok (.lstore 4, 2) := by decide +kernel
theorem own_d1_5 : decode prog_65_method_9_code 5 = .ok (.aload_n 2, 1) := by decide +kernel
theorem own_d1_6 : decode prog_65_method_9_code 6 = .ok (.iload_n 3, 1) := by decide +kernel
theorem own_d1_7 : decode prog_65_method_9_code 7 = .ok (.iconst 1, 1) := by decide +kernel
theorem own_d1_8 : decode prog_65_method_9_code 8 = .ok (.iadd, 1) := by decide +kernel
theorem own_d1_9 : decode prog_65_method_9_code 9 = .ok (.laload, 1) := by decide +kernel
theorem own_d1_10 : decode prog_65_method_9_code 10 = .ok (.lstore 6, 2) := by decide +kernel
theorem own_d1_12 : decode prog_65_method_9_code 12 = .ok (.aload_n 2, 1) := by decide +kernel
theorem own_d1_13 : decode prog_65_method_9_code 13 = .ok (.iload_n 3, 1) := by decide +kernel
theorem own_d1_14 : decode prog_65_method_9_code 14 = .ok (.iconst 2, 1) := by decide +kernel
theorem own_d1_15 : decode prog_65_method_9_code 15 = .ok (.iadd, 1) := by decide +kernel
theorem own_d1_16 : decode prog_65_method_9_code 16 = .ok (.laload, 1) := by decide +kernel
theorem own_d1_17 : decode prog_65_method_9_code 17 = .ok (.lstore 8, 2) := by decide +kernel
theorem own_d1_19 : decode prog_65_method_9_code 19 = .ok (.aload_n 2, 1) := by decide +kernel
theorem own_d1_20 : decode prog_65_method_9_code 20 = .ok (.iload_n 3, 1) := by decide +kernel
theorem own_d1_21 : decode prog_65_method_9_code 21 = .ok (.iconst 3, 1) := by decide +kernel
theorem own_d1_22 : decode prog_65_method_9_code 22 = .ok (.iadd, 1) := by decide +kernel
theorem own_d1_23 : decode prog_65_method_9_code 23 = .ok (.laload, 1) := by decide +kernel
theorem own_d1_24 : decode prog_65_method_9_code 24 = .ok (.lstore 10, 2) := by decide +kernel
theorem own_d1_26 : decode prog_65_method_9_code 26 = .ok (.aload_n 2, 1) := by decide +kernel
theorem own_d1_27 : decode prog_65_method_9_code 27 = .ok (.iload_n 3, 1) := by decide +kernel
theorem own_d1_28 : decode prog_65_method_9_code 28 = .ok (.iconst 4, 1) := by decide +kernel
theorem own_d1_29 : decode prog_65_method_9_code 29 = .ok (.iadd, 1) := by decide +kernel
theorem own_d1_30 : decode prog_65_method_9_code 30 = .ok (.laload, 1) := by decide +kernel
theorem own_d1_31 : decode prog_65_method_9_code 31 = .ok (.lstore 12, 2) := by decide +kernel
theorem own_d1_33 : decode prog_65_method_9_code 33 = .ok (.aload_n 2, 1) := by decide +kernel
theorem own_d1_34 : decode prog_65_method_9_code 34 = .ok (.iload_n 3, 1) := by decide +kernel
theorem own_d1_35 : decode prog_65_method_9_code 35 = .ok (.iconst 5, 1) := by decide +kernel
theorem own_d1_36 : decode prog_65_method_9_code 36 = .ok (.iadd, 1) := by decide +kernel
theorem own_d1_37 : decode prog_65_method_9_code 37 = .ok (.laload, 1) := by decide +kernel
theorem own_d1_38 : decode prog_65_method_9_code 38 = .ok (.lstore 14, 2) := by decide +kernel
theorem own_d1_40 : decode prog_65_method_9_code 40 = .ok (.aload_n 2, 1) := by decide +kernel
theorem own_d1_41 : decode prog_65_method_9_code 41 = .ok (.iload_n 3, 1) := by decide +kernel
theorem own_d1_42 : decode prog_65_method_9_code 42 = .ok (.bipush 6, 2) := by decide +kernel
theorem own_d1_44 : decode prog_65_method_9_code 44 = .ok (.iadd, 1) := by decide +kernel
theorem own_d1_45 : decode prog_65_method_9_code 45 = .ok (.laload, 1) := by decide +kernel
theorem own_d1_46 : decode prog_65_method_9_code 46 = .ok (.lstore 16, 2) := by decide +kernel
theorem own_d1_48 : decode prog_65_method_9_code 48 = .ok (.aload_n 2, 1) := by decide +kernel
theorem own_d1_49 : decode prog_65_method_9_code 49 = .ok (.iload_n 3, 1) := by decide +kernel
theorem own_d1_50 : decode prog_65_method_9_code 50 = .ok (.bipush 7, 2) := by decide +kernel
theorem own_d1_52 : decode prog_65_method_9_code 52 = .ok (.iadd, 1) := by decide +kernel
theorem own_d1_53 : decode prog_65_method_9_code 53 = .ok (.laload, 1) := by decide +kernel
theorem own_d1_54 : decode prog_65_method_9_code 54 = .ok (.lstore 18, 2) := by decide +kernel
theorem own_d1_56 : decode prog_65_method_9_code 56 = .ok (.aload_n 2, 1) := by decide +kernel
theorem own_d1_57 : decode prog_65_method_9_code 57 = .ok (.iload_n 3, 1) := by decide +kernel
theorem own_d1_58 : decode prog_65_method_9_code 58 = .ok (.bipush 8, 2) := by decide +kernel
theorem own_d1_60 : decode prog_65_method_9_code 60 = .ok (.iadd, 1) := by decide +kernel
theorem own_d1_61 : decode prog_65_method_9_code 61 = .ok (.laload, 1) := by decide +kernel
theorem own_d1_62 : decode prog_65_method_9_code 62 = .ok (.lstore 20, 2) := by decide +kernel
theorem own_d1_64 : decode prog_65_method_9_code 64 = .ok (.aload_n 0, 1) := by decide +kernel
theorem own_d1_65 : decode prog_65_method_9_code 65 = .ok (.iconst 0, 1) := by decide +kernel
theorem own_d1_66 : decode prog_65_method_9_code 66 = .ok (.lload 4, 2) := by decide +kernel
theorem own_d1_68 : decode prog_65_method_9_code 68 = .ok (.ldc2_w 47, 3) := by decide +kernel
theorem own_d1_71 : decode prog_65_method_9_code 71 = .ok (.land, 1) := by decide +kernel
theorem own_d1_72 : decode prog_65_method_9_code 72 = .ok (.lastore, 1) := by decide +kernel
theorem own_d1_73 : decode prog_65_method_9_code 73 = .ok (.aload_n 0, 1) := by decide +kernel
theorem own_d1_74 : decode prog_65_method_9_code 74 = .ok (.iconst 1, 1) := by decide +kernel
theorem own_d1_75 : decode prog_65_method_9_code 75 = .ok (.lload 6, 2) := by decide +kernel
theorem own_d1_77 : decode prog_65_method_9_code 77 = .ok (.ldc2_w 47, 3) := by decide +kernel
theorem own_d1_80 : decode prog_65_method_9_code 80 = .ok (.land, 1) := by decide +kernel
theorem own_d1_81 : decode prog_65_method_9_code 81 = .ok (.lastore, 1) := by decide +kernel
theorem own_d1_82 : decode prog_65_method_9_code 82 = .ok (.aload_n 0, 1) := by decide +kernel
theorem own_d1_83 : decode prog_65_method_9_code 83 = .ok (.iconst 2, 1) := by decide +kernel
theorem own_d1_84 : decode prog_65_method_9_code 84 = .ok (.lload 8, 2) := by decide +kernel
theorem own_d1_86 : decode prog_65_method_9_code 86 = .ok (.ldc2_w 47, 3) := by decide +kernel
theorem own_d1_89 : decode prog_65_method_9_code 89 = .ok (.land, 1) := by decide +kernel
theorem own_d1_90 : decode prog_65_method_9_code 90 = .ok (.lastore, 1) := by decide +kernel
theorem own_d1_91 : decode prog_65_method_9_code 91 = .ok (.aload_n 0, 1) := by decide +kernel
theorem own_d1_92 : decode prog_65_method_9_code 92 = .ok (.iconst 3, 1) := by decide +kernel
theorem own_d1_93 : decode prog_65_method_9_code 93 = .ok (.lload 10, 2) := by decide +kernel
theorem own_d1_95 : decode prog_65_method_9_code 95 = .ok (.ldc2_w 47, 3) := by decide +kernel
theorem own_d1_98 : decode prog_65_method_9_code 98 = .ok (.land, 1) := by decide +kernel
theorem own_d1_99 : decode prog_65_method_9_code 99 = .ok (.lastore, 1) := by decide +kernel
theorem own_d1_100 : decode prog_65_method_9_code 100 = .ok (.aload_n 0, 1) := by decide +kernel
theorem own_d1_101 : decode prog_65_method_9_code 101 = .ok (.iconst 4, 1) := by decide +kernel
theorem own_d1_102 : decode prog_65_method_9_code 102 = .ok (.lload 12, 2) := by decide +kernel
theorem own_d1_104 : decode prog_65_method_9_code 104 = .ok (.ldc2_w 47, 3) := by decide +kernel
theorem own_d1_107 : decode prog_65_method_9_code 107 = .ok (.land, 1) := by decide +kernel
theorem own_d1_108 : decode prog_65_method_9_code 108 = .ok (.lastore, 1) := by decide +kernel
theorem own_d1_109 : decode prog_65_method_9_code 109 = .ok (.aload_n 0, 1) := by decide +kernel
theorem own_d1_110 : decode prog_65_method_9_code 110 = .ok (.iconst 5, 1) := by decide +kernel
theorem own_d1_111 : decode prog_65_method_9_code 111 = .ok (.lload 14, 2) := by decide +kernel
theorem own_d1_113 : decode prog_65_method_9_code 113 = .ok (.ldc2_w 47, 3) := by decide +kernel
theorem own_d1_116 : decode prog_65_method_9_code 116 = .ok (.land, 1) := by decide +kernel
theorem own_d1_117 : decode prog_65_method_9_code 117 = .ok (.lastore, 1) := by decide +kernel
theorem own_d1_118 : decode prog_65_method_9_code 118 = .ok (.aload_n 0, 1) := by decide +kernel
theorem own_d1_119 : decode prog_65_method_9_code 119 = .ok (.bipush 6, 2) := by decide +kernel
theorem own_d1_121 : decode prog_65_method_9_code 121 = .ok (.lload 16, 2) := by decide +kernel
theorem own_d1_123 : decode prog_65_method_9_code 123 = .ok (.ldc2_w 47, 3) := by decide +kernel
theorem own_d1_126 : decode prog_65_method_9_code 126 = .ok (.land, 1) := by decide +kernel
theorem own_d1_127 : decode prog_65_method_9_code 127 = .ok (.lastore, 1) := by decide +kernel
theorem own_d1_128 : decode prog_65_method_9_code 128 = .ok (.aload_n 0, 1) := by decide +kernel
theorem own_d1_129 : decode prog_65_method_9_code 129 = .ok (.bipush 7, 2) := by decide +kernel
theorem own_d1_131 : decode prog_65_method_9_code 131 = .ok (.lload 18, 2) := by decide +kernel
theorem own_d1_133 : decode prog_65_method_9_code 133 = .ok (.ldc2_w 47, 3) := by decide +kernel
theorem own_d1_136 : decode prog_65_method_9_code 136 = .ok (.land, 1) := by decide +kernel
theorem own_d1_137 : decode prog_65_method_9_code 137 = .ok (.lastore, 1) := by decide +kernel
theorem own_d1_138 : decode prog_65_method_9_code 138 = .ok (.aload_n 0, 1) := by decide +kernel
theorem own_d1_139 : decode prog_65_method_9_code 139 = .ok (.bipush 8, 2) := by decide +kernel
theorem own_d1_141 : decode prog_65_method_9_code 141 = .ok (.lload 20, 2) := by decide +kernel
theorem own_d1_143 : decode prog_65_method_9_code 143 = .ok (.ldc2_w 47, 3) := by decide +kernel
theorem own_d1_146 : decode prog_65_method_9_code 146 = .ok (.land, 1) := by decide +kernel
theorem own_d1_147 : decode prog_65_method_9_code 147 = .ok (.lastore, 1) := by decide +kernel
theorem own_d1_148 : decode prog_65_method_9_code 148 = .ok (.aload_n 1, 1) := by decide +kernel
theorem own_d1_149 : decode prog_65_method_9_code 149 = .ok (.iconst 0, 1) := by decide +kernel
theorem own_d1_150 : decode prog_65_method_9_code 150 = .ok (.lload 4, 2) := by decide +kernel
theorem own_d1_152 : decode prog_65_method_9_code 152 = .ok (.bipush 32, 2) := by decide +kernel
theorem own_d1_154 : decode prog_65_method_9_code 154 = .ok (.lushr, 1) := by decide +kernel
theorem own_d1_155 : decode prog_65_method_9_code 155 = .ok (.lastore, 1) := by decide +kernel
theorem own_d1_156 : decode prog_65_method_9_code 156 = .ok (.aload_n 1, 1) := by decide +kernel
theorem own_d1_157 : decode prog_65_method_9_code 157 = .ok (.iconst 1, 1) := by decide +kernel
theorem own_d1_158 : decode prog_65_method_9_code 158 = .ok (.lload 6, 2) := by decide +kernel
theorem own_d1_160 : decode prog_65_method_9_code 160 = .ok (.bipush 32, 2) := by decide +kernel
theorem own_d1_162 : decode prog_65_method_9_code 162 = .ok (.lushr, 1) := by decide +kernel
theorem own_d1_163 : decode prog_65_method_9_code 163 = .ok (.lastore, 1) := by decide +kernel
theorem own_d1_164 : decode prog_65_method_9_code 164 = .ok (.aload_n 1, 1) := by decide +kernel
theorem own_d1_165 : decode prog_65_method_9_code 165 = .ok (.iconst 2, 1) := by decide +kernel
theorem own_d1_166 : decode prog_65_method_9_code 166 = .ok (.lload 8, 2) := by decide +kernel
theorem own_d1_168 : decode prog_65_method_9_code 168 = .ok (.bipush 32, 2) := by decide +kernel
theorem own_d1_170 : decode prog_65_method_9_code 170 = .ok (.lushr, 1) := by decide +kernel
theorem own_d1_171 : decode prog_65_method_9_code 171 = .ok (.lastore, 1) := by decide +kernel
theorem own_d1_172 : decode prog_65_method_9_code 172 = .ok (.aload_n 1, 1) := by decide +kernel
theorem own_d1_173 : decode prog_65_method_9_code 173 = .ok (.iconst 3, 1) := by decide +kernel
theorem own_d1_174 : decode prog_65_method_9_code 174 = .ok (.lload 10, 2) := by decide +kernel
theorem own_d1_176 : decode prog_65_method_9_code 176 = .ok (.bipush 32, 2) := by decide +kernel
theorem own_d1_178 : decode prog_65_method_9_code 178 = .ok (.lushr, 1) := by decide +kernel
theorem own_d1_179 : decode prog_65_method_9_code 179 = .ok (.lastore, 1) := by decide +kernel
theorem own_d1_180 : decode prog_65_method_9_code 180 = .ok (.aload_n 1, 1) := by decide +kernel
theorem own_d1_181 : decode prog_65_method_9_code 181 = .ok (.iconst 4, 1) := by decide +kernel
theorem own_d1_182 : decode prog_65_method_9_code 182 = .ok (.lload 12, 2) := by decide +kernel
theorem own_d1_184 : decode prog_65_method_9_code 184 = .ok (.bipush 32, 2) := by decide +kernel
theorem own_d1_186 : decode prog_65_method_9_code 186 = .ok (.lushr, 1) := by decide +kernel
theorem own_d1_187 : decode prog_65_method_9_code 187 = .ok (.lastore, 1) := by decide +kernel
theorem own_d1_188 : decode prog_65_method_9_code 188 = .ok (.aload_n 1, 1) := by decide +kernel
theorem own_d1_189 : decode prog_65_method_9_code 189 = .ok (.iconst 5, 1) := by decide +kernel
theorem own_d1_190 : decode prog_65_method_9_code 190 = .ok (.lload 14, 2) := by decide +kernel
theorem own_d1_192 : decode prog_65_method_9_code 192 = .ok (.bipush 32, 2) := by decide +kernel
theorem own_d1_194 : decode prog_65_method_9_code 194 = .ok (.lushr, 1) := by decide +kernel
theorem own_d1_195 : decode prog_65_method_9_code 195 = .ok (.lastore, 1) := by decide +kernel
theorem own_d1_196 : decode prog_65_method_9_code 196 = .ok (.aload_n 1, 1) := by decide +kernel
theorem own_d1_197 : decode prog_65_method_9_code 197 = .ok (.bipush 6, 2) := by decide +kernel
theorem own_d1_199 : decode prog_65_method_9_code 199 = .ok (.lload 16, 2) := by decide +kernel
theorem own_d1_201 : decode prog_65_method_9_code 201 = .ok (.bipush 32, 2) := by decide +kernel
theorem own_d1_203 : decode prog_65_method_9_code 203 = .ok (.lushr, 1) := by decide +kernel
theorem own_d1_204 : decode prog_65_method_9_code 204 = .ok (.lastore, 1) := by decide +kernel
theorem own_d1_205 : decode prog_65_method_9_code 205 = .ok (.aload_n 1, 1) := by decide +kernel
theorem own_d1_206 : decode prog_65_method_9_code 206 = .ok (.bipush 7, 2) := by decide +kernel
theorem own_d1_208 : decode prog_65_method_9_code 208 = .ok (.lload 18, 2) := by decide +kernel
theorem own_d1_210 : decode prog_65_method_9_code 210 = .ok (.bipush 32, 2) := by decide +kernel
theorem own_d1_212 : decode prog_65_method_9_code 212 = .ok (.lushr, 1) := by decide +kernel
theorem own_d1_213 : decode prog_65_method_9_code 213 = .ok (.lastore, 1) := by decide +kernel
theorem own_d1_214 : decode prog_65_method_9_code 214 = .ok (.aload_n 1, 1) := by decide +kernel
theorem own_d1_215 : decode prog_65_method_9_code 215 = .ok (.bipush 8, 2) := by decide +kernel
theorem own_d1_217 : decode prog_65_method_9_code 217 = .ok (.lload 20, 2) := by decide +kernel
theorem own_d1_219 : decode prog_65_method_9_code 219 = .ok (.bipush 32, 2) := by decide +kernel
theorem own_d1_221 : decode prog_65_method_9_code 221 = .ok (.lushr, 1) := by decide +kernel
theorem own_d1_222 : decode prog_65_method_9_code 222 = .ok (.lastore, 1) := by decide +kernel
theorem own_d1_223 : decode prog_65_method_9_code 223 = .ok (.return_, 1) := by decide +kernel
theorem own_ef1 (a1 : Addr) (a2 : Addr) (a3 : Addr) (p4 : Int32) (m : MethodId) : entryFrame m #[(.ref a1), (.ref a2), (.ref a3), (.int p4)] 22 = mkF m 0 #[.val (.ref a1), .val (.ref a2), .val (.ref a3), .val (.int p4), .unset, .unset, .unset, .unset, .unset, .unset, .unset, .unset, .unset, .unset, .unset, .unset, .unset, .unset, .unset, .unset, .unset, .unset] [] := by first | (simp [entryFrame, mkF, argsToLocals, Value.category]; done) | rfl
theorem own_pf1 : plainFor (⟨"marketmint/P256Field", "unpack", "([J[J[JI)V"⟩ : MethodName) = true := by first | exact plainFor_of_name (by first | (simp [plainName, overriddenIn]; done) | decide +kernel) | decide +kernel
def own_v1_3 (xs_a3 : List Int64) (p4 : Int32) : Int64 := (List.getD xs_a3 (p4.toNatClampNeg) 0)
def own_v1_10 (xs_a3 : List Int64) (p4 : Int32) : Int64 := (List.getD xs_a3 ((p4 + (1 : Int32)).toNatClampNeg) 0)
def own_v1_17 (xs_a3 : List Int64) (p4 : Int32) : Int64 := (List.getD xs_a3 ((p4 + (2 : Int32)).toNatClampNeg) 0)
def own_v1_24 (xs_a3 : List Int64) (p4 : Int32) : Int64 := (List.getD xs_a3 ((p4 + (3 : Int32)).toNatClampNeg) 0)
def own_v1_31 (xs_a3 : List Int64) (p4 : Int32) : Int64 := (List.getD xs_a3 ((p4 + (4 : Int32)).toNatClampNeg) 0)
def own_v1_38 (xs_a3 : List Int64) (p4 : Int32) : Int64 := (List.getD xs_a3 ((p4 + (5 : Int32)).toNatClampNeg) 0)
def own_v1_46 (xs_a3 : List Int64) (p4 : Int32) : Int64 := (List.getD xs_a3 ((p4 + (6 : Int32)).toNatClampNeg) 0)
def own_v1_54 (xs_a3 : List Int64) (p4 : Int32) : Int64 := (List.getD xs_a3 ((p4 + (7 : Int32)).toNatClampNeg) 0)
def own_v1_62 (xs_a3 : List Int64) (p4 : Int32) : Int64 := (List.getD xs_a3 ((p4 + (8 : Int32)).toNatClampNeg) 0)
def own_v1_72 (xs_a3 : List Int64) (p4 : Int32) : Int64 := ((own_v1_3 xs_a3 p4) &&& (4294967295 : Int64))
def own_v1_81 (xs_a3 : List Int64) (p4 : Int32) : Int64 := ((own_v1_10 xs_a3 p4) &&& (4294967295 : Int64))
def own_v1_90 (xs_a3 : List Int64) (p4 : Int32) : Int64 := ((own_v1_17 xs_a3 p4) &&& (4294967295 : Int64))
def own_v1_99 (xs_a3 : List Int64) (p4 : Int32) : Int64 := ((own_v1_24 xs_a3 p4) &&& (4294967295 : Int64))
def own_v1_108 (xs_a3 : List Int64) (p4 : Int32) : Int64 := ((own_v1_31 xs_a3 p4) &&& (4294967295 : Int64))
def own_v1_117 (xs_a3 : List Int64) (p4 : Int32) : Int64 := ((own_v1_38 xs_a3 p4) &&& (4294967295 : Int64))
def own_v1_127 (xs_a3 : List Int64) (p4 : Int32) : Int64 := ((own_v1_46 xs_a3 p4) &&& (4294967295 : Int64))
def own_v1_137 (xs_a3 : List Int64) (p4 : Int32) : Int64 := ((own_v1_54 xs_a3 p4) &&& (4294967295 : Int64))
def own_v1_147 (xs_a3 : List Int64) (p4 : Int32) : Int64 := ((own_v1_62 xs_a3 p4) &&& (4294967295 : Int64))
def own_v1_155 (xs_a3 : List Int64) (p4 : Int32) : Int64 := (((own_v1_3 xs_a3 p4).toUInt64 >>> (32 : UInt64)).toInt64)
def own_v1_163 (xs_a3 : List Int64) (p4 : Int32) : Int64 := (((own_v1_10 xs_a3 p4).toUInt64 >>> (32 : UInt64)).toInt64)
def own_v1_171 (xs_a3 : List Int64) (p4 : Int32) : Int64 := (((own_v1_17 xs_a3 p4).toUInt64 >>> (32 : UInt64)).toInt64)
def own_v1_179 (xs_a3 : List Int64) (p4 : Int32) : Int64 := (((own_v1_24 xs_a3 p4).toUInt64 >>> (32 : UInt64)).toInt64)
def own_v1_187 (xs_a3 : List Int64) (p4 : Int32) : Int64 := (((own_v1_31 xs_a3 p4).toUInt64 >>> (32 : UInt64)).toInt64)
def own_v1_195 (xs_a3 : List Int64) (p4 : Int32) : Int64 := (((own_v1_38 xs_a3 p4).toUInt64 >>> (32 : UInt64)).toInt64)
def own_v1_204 (xs_a3 : List Int64) (p4 : Int32) : Int64 := (((own_v1_46 xs_a3 p4).toUInt64 >>> (32 : UInt64)).toInt64)
def own_v1_213 (xs_a3 : List Int64) (p4 : Int32) : Int64 := (((own_v1_54 xs_a3 p4).toUInt64 >>> (32 : UInt64)).toInt64)
def own_v1_222 (xs_a3 : List Int64) (p4 : Int32) : Int64 := (((own_v1_62 xs_a3 p4).toUInt64 >>> (32 : UInt64)).toInt64)
-- LEMMAS
theorem own_at {p k : Int32} (hp : ¬ p < (0 : Int32)) (hq : ¬ (3 : Int32) < p) (k0 : 0 ≤ k.toInt) (k1 : k.toInt ≤ 8) : (p + k).toInt = p.toInt + k.toInt ∧ ¬ p + k < 0 ∧ p + k < 12 := by
  have e0 : (0 : Int32).toInt = 0 := rfl
  have e3 : (3 : Int32).toInt = 3 := rfl
  have e6 : (12 : Int32).toInt = 12 := rfl
  simp only [own_lt, e0, e3, e6] at *
  have a : (p + k).toInt = p.toInt + k.toInt := own_AI rfl rfl (by omega) (by omega)
  exact ⟨a, by omega, by omega⟩
theorem own_at0 {p : Int32} (hq : ¬ (3 : Int32) < p) : p < 12 := by
  have e3 : (3 : Int32).toInt = 3 := rfl
  have e6 : (12 : Int32).toInt = 12 := rfl
  simp only [own_lt, e3, e6] at *; omega
-- END LEMMAS
set_option maxRecDepth 65536 in
set_option maxHeartbeats 40000000 in
theorem own_rm1 (l : Launch) (Z : State) (a0 : Array Value) (hw : ∀ d ∈ tables_1, d.before a0 Z = true) (a1 : Addr) (r0 : Int64) (r1 : Int64) (r2 : Int64) (r3 : Int64) (r4 : Int64) (r5 : Int64) (r6 : Int64) (r7 : Int64) (r8 : Int64) (a2 : Addr) (t0 : Int64) (t1 : Int64) (t2 : Int64) (t3 : Int64) (t4 : Int64) (t5 : Int64) (t6 : Int64) (t7 : Int64) (t8 : Int64) (a3 : Addr) (xs_a3 : List Int64) (p4 : Int32) (h0 : Heap) (n0 : Nat) (Z0 : n0 ≤ h0.size) (V_a1 : own_W Z h0 a1 (9 : Int32) [r0, r1, r2, r3, r4, r5, r6, r7, r8]) (V_a2 : own_W Z h0 a2 (9 : Int32) [t0, t1, t2, t3, t4, t5, t6, t7, t8]) (V_a3 : own_W Z h0 a3 (12 : Int32) xs_a3) (n12 : a1 ≠ a2) (n31 : a3 ≠ a1) (n32 : a3 ≠ a2) (g_a1 : n0 ≤ a1) (g_a2 : n0 ≤ a2) (hp : ¬ p4 < (0 : Int32)) (hq : ¬ (3 : Int32) < p4) :
    own_Con l Z (⟨"marketmint/P256Field", "unpack", "([J[J[JI)V"⟩ : MethodName) prog_65_method_9_code 22 none ({ frames := 0, cells := 0, slots := 0, locals := 0 } : Room) #[(.ref a1), (.ref a2), (.ref a3), (.int p4)] h0 n0 (fun v h => v = none ∧ Keep h0 h [a1, a2] ∧ own_W Z h a1 (9 : Int32) [(own_v1_72 xs_a3 p4), (own_v1_81 xs_a3 p4), (own_v1_90 xs_a3 p4), (own_v1_99 xs_a3 p4), (own_v1_108 xs_a3 p4), (own_v1_117 xs_a3 p4), (own_v1_127 xs_a3 p4), (own_v1_137 xs_a3 p4), (own_v1_147 xs_a3 p4)] ∧ own_W Z h a2 (9 : Int32) [(own_v1_155 xs_a3 p4), (own_v1_163 xs_a3 p4), (own_v1_171 xs_a3 p4), (own_v1_179 xs_a3 p4), (own_v1_187 xs_a3 p4), (own_v1_195 xs_a3 p4), (own_v1_204 xs_a3 p4), (own_v1_213 xs_a3 p4), (own_v1_222 xs_a3 p4)]) := by
  refine own_enter own_pf1 Z0 (own_ef1 a1 a2 a3 p4) ?_
  intro p e s m below meth c T0 X0 hret hnm
  refine own_aloadN X0 own_d1_0 (pc' := 1) rfl (v := (.ref a3)) rfl rfl ?_
  refine own_iloadN X0 own_d1_1 (pc' := 2) rfl (v := p4) rfl ?_
  refine own_laload X0 V_a3 hp (own_at0 hq) (y := (List.getD xs_a3 (p4.toNatClampNeg) 0)) rfl own_d1_2 (pc' := 3) rfl ?_
  refine own_lstore X0 own_d1_3 (pc' := 5) rfl (y := (own_v1_3 xs_a3 p4)) rfl (Ls' := #[.val (.ref a1), .val (.ref a2), .val (.ref a3), .val (.int p4), .val (.long (own_v1_3 xs_a3 p4)), .second, .unset, .unset, .unset, .unset, .unset, .unset, .unset, .unset, .unset, .unset, .unset, .unset, .unset, .unset, .unset, .unset]) rfl ?_
  refine own_aloadN X0 own_d1_5 (pc' := 6) rfl (v := (.ref a3)) rfl rfl ?_
  refine own_iloadN X0 own_d1_6 (pc' := 7) rfl (v := p4) rfl ?_
  refine own_iconst X0 own_d1_7 (pc' := 8) rfl (z := (1 : Int32)) rfl ?_
  refine own_iadd X0 own_d1_8 (pc' := 9) rfl (z := (p4 + (1 : Int32))) rfl ?_
  refine own_laload X0 V_a3 (own_at hp hq (by decide) (by decide)).2.1 (own_at hp hq (by decide) (by decide)).2.2 (y := (List.getD xs_a3 ((p4 + (1 : Int32)).toNatClampNeg) 0)) rfl own_d1_9 (pc' := 10) rfl ?_
  refine own_lstore X0 own_d1_10 (pc' := 12) rfl (y := (own_v1_10 xs_a3 p4)) rfl (Ls' := #[.val (.ref a1), .val (.ref a2), .val (.ref a3), .val (.int p4), .val (.long (own_v1_3 xs_a3 p4)), .second, .val (.long (own_v1_10 xs_a3 p4)), .second, .unset, .unset, .unset, .unset, .unset, .unset, .unset, .unset, .unset, .unset, .unset, .unset, .unset, .unset]) rfl ?_
  refine own_aloadN X0 own_d1_12 (pc' := 13) rfl (v := (.ref a3)) rfl rfl ?_
  refine own_iloadN X0 own_d1_13 (pc' := 14) rfl (v := p4) rfl ?_
  refine own_iconst X0 own_d1_14 (pc' := 15) rfl (z := (2 : Int32)) rfl ?_
  refine own_iadd X0 own_d1_15 (pc' := 16) rfl (z := (p4 + (2 : Int32))) rfl ?_
  refine own_laload X0 V_a3 (own_at hp hq (by decide) (by decide)).2.1 (own_at hp hq (by decide) (by decide)).2.2 (y := (List.getD xs_a3 ((p4 + (2 : Int32)).toNatClampNeg) 0)) rfl own_d1_16 (pc' := 17) rfl ?_
  refine own_lstore X0 own_d1_17 (pc' := 19) rfl (y := (own_v1_17 xs_a3 p4)) rfl (Ls' := #[.val (.ref a1), .val (.ref a2), .val (.ref a3), .val (.int p4), .val (.long (own_v1_3 xs_a3 p4)), .second, .val (.long (own_v1_10 xs_a3 p4)), .second, .val (.long (own_v1_17 xs_a3 p4)), .second, .unset, .unset, .unset, .unset, .unset, .unset, .unset, .unset, .unset, .unset, .unset, .unset]) rfl ?_
  refine own_aloadN X0 own_d1_19 (pc' := 20) rfl (v := (.ref a3)) rfl rfl ?_
  refine own_iloadN X0 own_d1_20 (pc' := 21) rfl (v := p4) rfl ?_
  refine own_iconst X0 own_d1_21 (pc' := 22) rfl (z := (3 : Int32)) rfl ?_
  refine own_iadd X0 own_d1_22 (pc' := 23) rfl (z := (p4 + (3 : Int32))) rfl ?_
  refine own_laload X0 V_a3 (own_at hp hq (by decide) (by decide)).2.1 (own_at hp hq (by decide) (by decide)).2.2 (y := (List.getD xs_a3 ((p4 + (3 : Int32)).toNatClampNeg) 0)) rfl own_d1_23 (pc' := 24) rfl ?_
  refine own_lstore X0 own_d1_24 (pc' := 26) rfl (y := (own_v1_24 xs_a3 p4)) rfl (Ls' := #[.val (.ref a1), .val (.ref a2), .val (.ref a3), .val (.int p4), .val (.long (own_v1_3 xs_a3 p4)), .second, .val (.long (own_v1_10 xs_a3 p4)), .second, .val (.long (own_v1_17 xs_a3 p4)), .second, .val (.long (own_v1_24 xs_a3 p4)), .second, .unset, .unset, .unset, .unset, .unset, .unset, .unset, .unset, .unset, .unset]) rfl ?_
  refine own_aloadN X0 own_d1_26 (pc' := 27) rfl (v := (.ref a3)) rfl rfl ?_
  refine own_iloadN X0 own_d1_27 (pc' := 28) rfl (v := p4) rfl ?_
  refine own_iconst X0 own_d1_28 (pc' := 29) rfl (z := (4 : Int32)) rfl ?_
  refine own_iadd X0 own_d1_29 (pc' := 30) rfl (z := (p4 + (4 : Int32))) rfl ?_
  refine own_laload X0 V_a3 (own_at hp hq (by decide) (by decide)).2.1 (own_at hp hq (by decide) (by decide)).2.2 (y := (List.getD xs_a3 ((p4 + (4 : Int32)).toNatClampNeg) 0)) rfl own_d1_30 (pc' := 31) rfl ?_
  refine own_lstore X0 own_d1_31 (pc' := 33) rfl (y := (own_v1_31 xs_a3 p4)) rfl (Ls' := #[.val (.ref a1), .val (.ref a2), .val (.ref a3), .val (.int p4), .val (.long (own_v1_3 xs_a3 p4)), .second, .val (.long (own_v1_10 xs_a3 p4)), .second, .val (.long (own_v1_17 xs_a3 p4)), .second, .val (.long (own_v1_24 xs_a3 p4)), .second, .val (.long (own_v1_31 xs_a3 p4)), .second, .unset, .unset, .unset, .unset, .unset, .unset, .unset, .unset]) rfl ?_
  refine own_aloadN X0 own_d1_33 (pc' := 34) rfl (v := (.ref a3)) rfl rfl ?_
  refine own_iloadN X0 own_d1_34 (pc' := 35) rfl (v := p4) rfl ?_
  refine own_iconst X0 own_d1_35 (pc' := 36) rfl (z := (5 : Int32)) rfl ?_
  refine own_iadd X0 own_d1_36 (pc' := 37) rfl (z := (p4 + (5 : Int32))) rfl ?_
  refine own_laload X0 V_a3 (own_at hp hq (by decide) (by decide)).2.1 (own_at hp hq (by decide) (by decide)).2.2 (y := (List.getD xs_a3 ((p4 + (5 : Int32)).toNatClampNeg) 0)) rfl own_d1_37 (pc' := 38) rfl ?_
  refine own_lstore X0 own_d1_38 (pc' := 40) rfl (y := (own_v1_38 xs_a3 p4)) rfl (Ls' := #[.val (.ref a1), .val (.ref a2), .val (.ref a3), .val (.int p4), .val (.long (own_v1_3 xs_a3 p4)), .second, .val (.long (own_v1_10 xs_a3 p4)), .second, .val (.long (own_v1_17 xs_a3 p4)), .second, .val (.long (own_v1_24 xs_a3 p4)), .second, .val (.long (own_v1_31 xs_a3 p4)), .second, .val (.long (own_v1_38 xs_a3 p4)), .second, .unset, .unset, .unset, .unset, .unset, .unset]) rfl ?_
  refine own_aloadN X0 own_d1_40 (pc' := 41) rfl (v := (.ref a3)) rfl rfl ?_
  refine own_iloadN X0 own_d1_41 (pc' := 42) rfl (v := p4) rfl ?_
  refine own_bipush X0 own_d1_42 (pc' := 44) rfl (z := (6 : Int32)) rfl ?_
  refine own_iadd X0 own_d1_44 (pc' := 45) rfl (z := (p4 + (6 : Int32))) rfl ?_
  refine own_laload X0 V_a3 (own_at hp hq (by decide) (by decide)).2.1 (own_at hp hq (by decide) (by decide)).2.2 (y := (List.getD xs_a3 ((p4 + (6 : Int32)).toNatClampNeg) 0)) rfl own_d1_45 (pc' := 46) rfl ?_
  refine own_lstore X0 own_d1_46 (pc' := 48) rfl (y := (own_v1_46 xs_a3 p4)) rfl (Ls' := #[.val (.ref a1), .val (.ref a2), .val (.ref a3), .val (.int p4), .val (.long (own_v1_3 xs_a3 p4)), .second, .val (.long (own_v1_10 xs_a3 p4)), .second, .val (.long (own_v1_17 xs_a3 p4)), .second, .val (.long (own_v1_24 xs_a3 p4)), .second, .val (.long (own_v1_31 xs_a3 p4)), .second, .val (.long (own_v1_38 xs_a3 p4)), .second, .val (.long (own_v1_46 xs_a3 p4)), .second, .unset, .unset, .unset, .unset]) rfl ?_
  refine own_aloadN X0 own_d1_48 (pc' := 49) rfl (v := (.ref a3)) rfl rfl ?_
  refine own_iloadN X0 own_d1_49 (pc' := 50) rfl (v := p4) rfl ?_
  refine own_bipush X0 own_d1_50 (pc' := 52) rfl (z := (7 : Int32)) rfl ?_
  refine own_iadd X0 own_d1_52 (pc' := 53) rfl (z := (p4 + (7 : Int32))) rfl ?_
  refine own_laload X0 V_a3 (own_at hp hq (by decide) (by decide)).2.1 (own_at hp hq (by decide) (by decide)).2.2 (y := (List.getD xs_a3 ((p4 + (7 : Int32)).toNatClampNeg) 0)) rfl own_d1_53 (pc' := 54) rfl ?_
  refine own_lstore X0 own_d1_54 (pc' := 56) rfl (y := (own_v1_54 xs_a3 p4)) rfl (Ls' := #[.val (.ref a1), .val (.ref a2), .val (.ref a3), .val (.int p4), .val (.long (own_v1_3 xs_a3 p4)), .second, .val (.long (own_v1_10 xs_a3 p4)), .second, .val (.long (own_v1_17 xs_a3 p4)), .second, .val (.long (own_v1_24 xs_a3 p4)), .second, .val (.long (own_v1_31 xs_a3 p4)), .second, .val (.long (own_v1_38 xs_a3 p4)), .second, .val (.long (own_v1_46 xs_a3 p4)), .second, .val (.long (own_v1_54 xs_a3 p4)), .second, .unset, .unset]) rfl ?_
  refine own_aloadN X0 own_d1_56 (pc' := 57) rfl (v := (.ref a3)) rfl rfl ?_
  refine own_iloadN X0 own_d1_57 (pc' := 58) rfl (v := p4) rfl ?_
  refine own_bipush X0 own_d1_58 (pc' := 60) rfl (z := (8 : Int32)) rfl ?_
  refine own_iadd X0 own_d1_60 (pc' := 61) rfl (z := (p4 + (8 : Int32))) rfl ?_
  refine own_laload X0 V_a3 (own_at hp hq (by decide) (by decide)).2.1 (own_at hp hq (by decide) (by decide)).2.2 (y := (List.getD xs_a3 ((p4 + (8 : Int32)).toNatClampNeg) 0)) rfl own_d1_61 (pc' := 62) rfl ?_
  refine own_lstore X0 own_d1_62 (pc' := 64) rfl (y := (own_v1_62 xs_a3 p4)) rfl (Ls' := #[.val (.ref a1), .val (.ref a2), .val (.ref a3), .val (.int p4), .val (.long (own_v1_3 xs_a3 p4)), .second, .val (.long (own_v1_10 xs_a3 p4)), .second, .val (.long (own_v1_17 xs_a3 p4)), .second, .val (.long (own_v1_24 xs_a3 p4)), .second, .val (.long (own_v1_31 xs_a3 p4)), .second, .val (.long (own_v1_38 xs_a3 p4)), .second, .val (.long (own_v1_46 xs_a3 p4)), .second, .val (.long (own_v1_54 xs_a3 p4)), .second, .val (.long (own_v1_62 xs_a3 p4)), .second]) rfl ?_
  refine own_aloadN X0 own_d1_64 (pc' := 65) rfl (v := (.ref a1)) rfl rfl ?_
  refine own_iconst X0 own_d1_65 (pc' := 66) rfl (z := (0 : Int32)) rfl ?_
  refine own_lload X0 own_d1_66 (pc' := 68) rfl (v := (own_v1_3 xs_a3 p4)) rfl ?_
  refine own_ldc2 X0 (hw _ (List.mem_of_getElem? (i := 7) rfl)) own_d1_68 (pc' := 71) rfl ?_
  refine own_land X0 own_d1_71 (pc' := 72) rfl (z := ((own_v1_3 xs_a3 p4) &&& (4294967295 : Int64))) rfl ?_
  refine own_lastore X0 V_a1 g_a1 (x := (own_v1_72 xs_a3 p4)) rfl 0 rfl (by decide) (by decide) own_d1_72 (pc' := 73) rfl fun T1 h2 lc4 X3 W5 V6 => ?_
  replace V6 : own_W Z h2 a1 (9 : Int32) [(own_v1_72 xs_a3 p4), r1, r2, r3, r4, r5, r6, r7, r8] := V6
  have V7 := V_a2.other W5 (Ne.symm n12)
  have V8 := V_a3.other W5 n31
  have K9 := Keep.wr (Keep.refl h0 [a1, a2]) W5 (Or.inl (List.mem_of_getElem? (i := 0) rfl))
  refine own_aloadN X3 own_d1_73 (pc' := 74) rfl (v := (.ref a1)) rfl rfl ?_
  refine own_iconst X3 own_d1_74 (pc' := 75) rfl (z := (1 : Int32)) rfl ?_
  refine own_lload X3 own_d1_75 (pc' := 77) rfl (v := (own_v1_10 xs_a3 p4)) rfl ?_
  refine own_ldc2 X3 (hw _ (List.mem_of_getElem? (i := 7) rfl)) own_d1_77 (pc' := 80) rfl ?_
  refine own_land X3 own_d1_80 (pc' := 81) rfl (z := ((own_v1_10 xs_a3 p4) &&& (4294967295 : Int64))) rfl ?_
  refine own_lastore X3 V6 g_a1 (x := (own_v1_81 xs_a3 p4)) rfl 1 rfl (by decide) (by decide) own_d1_81 (pc' := 82) rfl fun T10 h11 lc13 X12 W14 V15 => ?_
  replace V15 : own_W Z h11 a1 (9 : Int32) [(own_v1_72 xs_a3 p4), (own_v1_81 xs_a3 p4), r2, r3, r4, r5, r6, r7, r8] := V15
  have V16 := V7.other W14 (Ne.symm n12)
  have V17 := V8.other W14 n31
  have K18 := Keep.wr K9 W14 (Or.inl (List.mem_of_getElem? (i := 0) rfl))
  refine own_aloadN X12 own_d1_82 (pc' := 83) rfl (v := (.ref a1)) rfl rfl ?_
  refine own_iconst X12 own_d1_83 (pc' := 84) rfl (z := (2 : Int32)) rfl ?_
  refine own_lload X12 own_d1_84 (pc' := 86) rfl (v := (own_v1_17 xs_a3 p4)) rfl ?_
  refine own_ldc2 X12 (hw _ (List.mem_of_getElem? (i := 7) rfl)) own_d1_86 (pc' := 89) rfl ?_
  refine own_land X12 own_d1_89 (pc' := 90) rfl (z := ((own_v1_17 xs_a3 p4) &&& (4294967295 : Int64))) rfl ?_
  refine own_lastore X12 V15 g_a1 (x := (own_v1_90 xs_a3 p4)) rfl 2 rfl (by decide) (by decide) own_d1_90 (pc' := 91) rfl fun T19 h20 lc22 X21 W23 V24 => ?_
  replace V24 : own_W Z h20 a1 (9 : Int32) [(own_v1_72 xs_a3 p4), (own_v1_81 xs_a3 p4), (own_v1_90 xs_a3 p4), r3, r4, r5, r6, r7, r8] := V24
  have V25 := V16.other W23 (Ne.symm n12)
  have V26 := V17.other W23 n31
  have K27 := Keep.wr K18 W23 (Or.inl (List.mem_of_getElem? (i := 0) rfl))
  refine own_aloadN X21 own_d1_91 (pc' := 92) rfl (v := (.ref a1)) rfl rfl ?_
  refine own_iconst X21 own_d1_92 (pc' := 93) rfl (z := (3 : Int32)) rfl ?_
  refine own_lload X21 own_d1_93 (pc' := 95) rfl (v := (own_v1_24 xs_a3 p4)) rfl ?_
  refine own_ldc2 X21 (hw _ (List.mem_of_getElem? (i := 7) rfl)) own_d1_95 (pc' := 98) rfl ?_
  refine own_land X21 own_d1_98 (pc' := 99) rfl (z := ((own_v1_24 xs_a3 p4) &&& (4294967295 : Int64))) rfl ?_
  refine own_lastore X21 V24 g_a1 (x := (own_v1_99 xs_a3 p4)) rfl 3 rfl (by decide) (by decide) own_d1_99 (pc' := 100) rfl fun T28 h29 lc31 X30 W32 V33 => ?_
  replace V33 : own_W Z h29 a1 (9 : Int32) [(own_v1_72 xs_a3 p4), (own_v1_81 xs_a3 p4), (own_v1_90 xs_a3 p4), (own_v1_99 xs_a3 p4), r4, r5, r6, r7, r8] := V33
  have V34 := V25.other W32 (Ne.symm n12)
  have V35 := V26.other W32 n31
  have K36 := Keep.wr K27 W32 (Or.inl (List.mem_of_getElem? (i := 0) rfl))
  refine own_aloadN X30 own_d1_100 (pc' := 101) rfl (v := (.ref a1)) rfl rfl ?_
  refine own_iconst X30 own_d1_101 (pc' := 102) rfl (z := (4 : Int32)) rfl ?_
  refine own_lload X30 own_d1_102 (pc' := 104) rfl (v := (own_v1_31 xs_a3 p4)) rfl ?_
  refine own_ldc2 X30 (hw _ (List.mem_of_getElem? (i := 7) rfl)) own_d1_104 (pc' := 107) rfl ?_
  refine own_land X30 own_d1_107 (pc' := 108) rfl (z := ((own_v1_31 xs_a3 p4) &&& (4294967295 : Int64))) rfl ?_
  refine own_lastore X30 V33 g_a1 (x := (own_v1_108 xs_a3 p4)) rfl 4 rfl (by decide) (by decide) own_d1_108 (pc' := 109) rfl fun T37 h38 lc40 X39 W41 V42 => ?_
  replace V42 : own_W Z h38 a1 (9 : Int32) [(own_v1_72 xs_a3 p4), (own_v1_81 xs_a3 p4), (own_v1_90 xs_a3 p4), (own_v1_99 xs_a3 p4), (own_v1_108 xs_a3 p4), r5, r6, r7, r8] := V42
  have V43 := V34.other W41 (Ne.symm n12)
  have V44 := V35.other W41 n31
  have K45 := Keep.wr K36 W41 (Or.inl (List.mem_of_getElem? (i := 0) rfl))
  refine own_aloadN X39 own_d1_109 (pc' := 110) rfl (v := (.ref a1)) rfl rfl ?_
  refine own_iconst X39 own_d1_110 (pc' := 111) rfl (z := (5 : Int32)) rfl ?_
  refine own_lload X39 own_d1_111 (pc' := 113) rfl (v := (own_v1_38 xs_a3 p4)) rfl ?_
  refine own_ldc2 X39 (hw _ (List.mem_of_getElem? (i := 7) rfl)) own_d1_113 (pc' := 116) rfl ?_
  refine own_land X39 own_d1_116 (pc' := 117) rfl (z := ((own_v1_38 xs_a3 p4) &&& (4294967295 : Int64))) rfl ?_
  refine own_lastore X39 V42 g_a1 (x := (own_v1_117 xs_a3 p4)) rfl 5 rfl (by decide) (by decide) own_d1_117 (pc' := 118) rfl fun T46 h47 lc49 X48 W50 V51 => ?_
  replace V51 : own_W Z h47 a1 (9 : Int32) [(own_v1_72 xs_a3 p4), (own_v1_81 xs_a3 p4), (own_v1_90 xs_a3 p4), (own_v1_99 xs_a3 p4), (own_v1_108 xs_a3 p4), (own_v1_117 xs_a3 p4), r6, r7, r8] := V51
  have V52 := V43.other W50 (Ne.symm n12)
  have V53 := V44.other W50 n31
  have K54 := Keep.wr K45 W50 (Or.inl (List.mem_of_getElem? (i := 0) rfl))
  refine own_aloadN X48 own_d1_118 (pc' := 119) rfl (v := (.ref a1)) rfl rfl ?_
  refine own_bipush X48 own_d1_119 (pc' := 121) rfl (z := (6 : Int32)) rfl ?_
  refine own_lload X48 own_d1_121 (pc' := 123) rfl (v := (own_v1_46 xs_a3 p4)) rfl ?_
  refine own_ldc2 X48 (hw _ (List.mem_of_getElem? (i := 7) rfl)) own_d1_123 (pc' := 126) rfl ?_
  refine own_land X48 own_d1_126 (pc' := 127) rfl (z := ((own_v1_46 xs_a3 p4) &&& (4294967295 : Int64))) rfl ?_
  refine own_lastore X48 V51 g_a1 (x := (own_v1_127 xs_a3 p4)) rfl 6 rfl (by decide) (by decide) own_d1_127 (pc' := 128) rfl fun T55 h56 lc58 X57 W59 V60 => ?_
  replace V60 : own_W Z h56 a1 (9 : Int32) [(own_v1_72 xs_a3 p4), (own_v1_81 xs_a3 p4), (own_v1_90 xs_a3 p4), (own_v1_99 xs_a3 p4), (own_v1_108 xs_a3 p4), (own_v1_117 xs_a3 p4), (own_v1_127 xs_a3 p4), r7, r8] := V60
  have V61 := V52.other W59 (Ne.symm n12)
  have V62 := V53.other W59 n31
  have K63 := Keep.wr K54 W59 (Or.inl (List.mem_of_getElem? (i := 0) rfl))
  refine own_aloadN X57 own_d1_128 (pc' := 129) rfl (v := (.ref a1)) rfl rfl ?_
  refine own_bipush X57 own_d1_129 (pc' := 131) rfl (z := (7 : Int32)) rfl ?_
  refine own_lload X57 own_d1_131 (pc' := 133) rfl (v := (own_v1_54 xs_a3 p4)) rfl ?_
  refine own_ldc2 X57 (hw _ (List.mem_of_getElem? (i := 7) rfl)) own_d1_133 (pc' := 136) rfl ?_
  refine own_land X57 own_d1_136 (pc' := 137) rfl (z := ((own_v1_54 xs_a3 p4) &&& (4294967295 : Int64))) rfl ?_
  refine own_lastore X57 V60 g_a1 (x := (own_v1_137 xs_a3 p4)) rfl 7 rfl (by decide) (by decide) own_d1_137 (pc' := 138) rfl fun T64 h65 lc67 X66 W68 V69 => ?_
  replace V69 : own_W Z h65 a1 (9 : Int32) [(own_v1_72 xs_a3 p4), (own_v1_81 xs_a3 p4), (own_v1_90 xs_a3 p4), (own_v1_99 xs_a3 p4), (own_v1_108 xs_a3 p4), (own_v1_117 xs_a3 p4), (own_v1_127 xs_a3 p4), (own_v1_137 xs_a3 p4), r8] := V69
  have V70 := V61.other W68 (Ne.symm n12)
  have V71 := V62.other W68 n31
  have K72 := Keep.wr K63 W68 (Or.inl (List.mem_of_getElem? (i := 0) rfl))
  refine own_aloadN X66 own_d1_138 (pc' := 139) rfl (v := (.ref a1)) rfl rfl ?_
  refine own_bipush X66 own_d1_139 (pc' := 141) rfl (z := (8 : Int32)) rfl ?_
  refine own_lload X66 own_d1_141 (pc' := 143) rfl (v := (own_v1_62 xs_a3 p4)) rfl ?_
  refine own_ldc2 X66 (hw _ (List.mem_of_getElem? (i := 7) rfl)) own_d1_143 (pc' := 146) rfl ?_
  refine own_land X66 own_d1_146 (pc' := 147) rfl (z := ((own_v1_62 xs_a3 p4) &&& (4294967295 : Int64))) rfl ?_
  refine own_lastore X66 V69 g_a1 (x := (own_v1_147 xs_a3 p4)) rfl 8 rfl (by decide) (by decide) own_d1_147 (pc' := 148) rfl fun T73 h74 lc76 X75 W77 V78 => ?_
  replace V78 : own_W Z h74 a1 (9 : Int32) [(own_v1_72 xs_a3 p4), (own_v1_81 xs_a3 p4), (own_v1_90 xs_a3 p4), (own_v1_99 xs_a3 p4), (own_v1_108 xs_a3 p4), (own_v1_117 xs_a3 p4), (own_v1_127 xs_a3 p4), (own_v1_137 xs_a3 p4), (own_v1_147 xs_a3 p4)] := V78
  have V79 := V70.other W77 (Ne.symm n12)
  have V80 := V71.other W77 n31
  have K81 := Keep.wr K72 W77 (Or.inl (List.mem_of_getElem? (i := 0) rfl))
  refine own_aloadN X75 own_d1_148 (pc' := 149) rfl (v := (.ref a2)) rfl rfl ?_
  refine own_iconst X75 own_d1_149 (pc' := 150) rfl (z := (0 : Int32)) rfl ?_
  refine own_lload X75 own_d1_150 (pc' := 152) rfl (v := (own_v1_3 xs_a3 p4)) rfl ?_
  refine own_bipush X75 own_d1_152 (pc' := 154) rfl (z := (32 : Int32)) rfl ?_
  refine own_lushr X75 own_d1_154 (pc' := 155) rfl (z := (((own_v1_3 xs_a3 p4).toUInt64 >>> (32 : UInt64)).toInt64)) rfl ?_
  refine own_lastore X75 V79 g_a2 (x := (own_v1_155 xs_a3 p4)) rfl 0 rfl (by decide) (by decide) own_d1_155 (pc' := 156) rfl fun T82 h83 lc85 X84 W86 V87 => ?_
  replace V87 : own_W Z h83 a2 (9 : Int32) [(own_v1_155 xs_a3 p4), t1, t2, t3, t4, t5, t6, t7, t8] := V87
  have V88 := V78.other W86 n12
  have V89 := V80.other W86 n32
  have K90 := Keep.wr K81 W86 (Or.inl (List.mem_of_getElem? (i := 1) rfl))
  refine own_aloadN X84 own_d1_156 (pc' := 157) rfl (v := (.ref a2)) rfl rfl ?_
  refine own_iconst X84 own_d1_157 (pc' := 158) rfl (z := (1 : Int32)) rfl ?_
  refine own_lload X84 own_d1_158 (pc' := 160) rfl (v := (own_v1_10 xs_a3 p4)) rfl ?_
  refine own_bipush X84 own_d1_160 (pc' := 162) rfl (z := (32 : Int32)) rfl ?_
  refine own_lushr X84 own_d1_162 (pc' := 163) rfl (z := (((own_v1_10 xs_a3 p4).toUInt64 >>> (32 : UInt64)).toInt64)) rfl ?_
  refine own_lastore X84 V87 g_a2 (x := (own_v1_163 xs_a3 p4)) rfl 1 rfl (by decide) (by decide) own_d1_163 (pc' := 164) rfl fun T91 h92 lc94 X93 W95 V96 => ?_
  replace V96 : own_W Z h92 a2 (9 : Int32) [(own_v1_155 xs_a3 p4), (own_v1_163 xs_a3 p4), t2, t3, t4, t5, t6, t7, t8] := V96
  have V97 := V88.other W95 n12
  have V98 := V89.other W95 n32
  have K99 := Keep.wr K90 W95 (Or.inl (List.mem_of_getElem? (i := 1) rfl))
  refine own_aloadN X93 own_d1_164 (pc' := 165) rfl (v := (.ref a2)) rfl rfl ?_
  refine own_iconst X93 own_d1_165 (pc' := 166) rfl (z := (2 : Int32)) rfl ?_
  refine own_lload X93 own_d1_166 (pc' := 168) rfl (v := (own_v1_17 xs_a3 p4)) rfl ?_
  refine own_bipush X93 own_d1_168 (pc' := 170) rfl (z := (32 : Int32)) rfl ?_
  refine own_lushr X93 own_d1_170 (pc' := 171) rfl (z := (((own_v1_17 xs_a3 p4).toUInt64 >>> (32 : UInt64)).toInt64)) rfl ?_
  refine own_lastore X93 V96 g_a2 (x := (own_v1_171 xs_a3 p4)) rfl 2 rfl (by decide) (by decide) own_d1_171 (pc' := 172) rfl fun T100 h101 lc103 X102 W104 V105 => ?_
  replace V105 : own_W Z h101 a2 (9 : Int32) [(own_v1_155 xs_a3 p4), (own_v1_163 xs_a3 p4), (own_v1_171 xs_a3 p4), t3, t4, t5, t6, t7, t8] := V105
  have V106 := V97.other W104 n12
  have V107 := V98.other W104 n32
  have K108 := Keep.wr K99 W104 (Or.inl (List.mem_of_getElem? (i := 1) rfl))
  refine own_aloadN X102 own_d1_172 (pc' := 173) rfl (v := (.ref a2)) rfl rfl ?_
  refine own_iconst X102 own_d1_173 (pc' := 174) rfl (z := (3 : Int32)) rfl ?_
  refine own_lload X102 own_d1_174 (pc' := 176) rfl (v := (own_v1_24 xs_a3 p4)) rfl ?_
  refine own_bipush X102 own_d1_176 (pc' := 178) rfl (z := (32 : Int32)) rfl ?_
  refine own_lushr X102 own_d1_178 (pc' := 179) rfl (z := (((own_v1_24 xs_a3 p4).toUInt64 >>> (32 : UInt64)).toInt64)) rfl ?_
  refine own_lastore X102 V105 g_a2 (x := (own_v1_179 xs_a3 p4)) rfl 3 rfl (by decide) (by decide) own_d1_179 (pc' := 180) rfl fun T109 h110 lc112 X111 W113 V114 => ?_
  replace V114 : own_W Z h110 a2 (9 : Int32) [(own_v1_155 xs_a3 p4), (own_v1_163 xs_a3 p4), (own_v1_171 xs_a3 p4), (own_v1_179 xs_a3 p4), t4, t5, t6, t7, t8] := V114
  have V115 := V106.other W113 n12
  have V116 := V107.other W113 n32
  have K117 := Keep.wr K108 W113 (Or.inl (List.mem_of_getElem? (i := 1) rfl))
  refine own_aloadN X111 own_d1_180 (pc' := 181) rfl (v := (.ref a2)) rfl rfl ?_
  refine own_iconst X111 own_d1_181 (pc' := 182) rfl (z := (4 : Int32)) rfl ?_
  refine own_lload X111 own_d1_182 (pc' := 184) rfl (v := (own_v1_31 xs_a3 p4)) rfl ?_
  refine own_bipush X111 own_d1_184 (pc' := 186) rfl (z := (32 : Int32)) rfl ?_
  refine own_lushr X111 own_d1_186 (pc' := 187) rfl (z := (((own_v1_31 xs_a3 p4).toUInt64 >>> (32 : UInt64)).toInt64)) rfl ?_
  refine own_lastore X111 V114 g_a2 (x := (own_v1_187 xs_a3 p4)) rfl 4 rfl (by decide) (by decide) own_d1_187 (pc' := 188) rfl fun T118 h119 lc121 X120 W122 V123 => ?_
  replace V123 : own_W Z h119 a2 (9 : Int32) [(own_v1_155 xs_a3 p4), (own_v1_163 xs_a3 p4), (own_v1_171 xs_a3 p4), (own_v1_179 xs_a3 p4), (own_v1_187 xs_a3 p4), t5, t6, t7, t8] := V123
  have V124 := V115.other W122 n12
  have V125 := V116.other W122 n32
  have K126 := Keep.wr K117 W122 (Or.inl (List.mem_of_getElem? (i := 1) rfl))
  refine own_aloadN X120 own_d1_188 (pc' := 189) rfl (v := (.ref a2)) rfl rfl ?_
  refine own_iconst X120 own_d1_189 (pc' := 190) rfl (z := (5 : Int32)) rfl ?_
  refine own_lload X120 own_d1_190 (pc' := 192) rfl (v := (own_v1_38 xs_a3 p4)) rfl ?_
  refine own_bipush X120 own_d1_192 (pc' := 194) rfl (z := (32 : Int32)) rfl ?_
  refine own_lushr X120 own_d1_194 (pc' := 195) rfl (z := (((own_v1_38 xs_a3 p4).toUInt64 >>> (32 : UInt64)).toInt64)) rfl ?_
  refine own_lastore X120 V123 g_a2 (x := (own_v1_195 xs_a3 p4)) rfl 5 rfl (by decide) (by decide) own_d1_195 (pc' := 196) rfl fun T127 h128 lc130 X129 W131 V132 => ?_
  replace V132 : own_W Z h128 a2 (9 : Int32) [(own_v1_155 xs_a3 p4), (own_v1_163 xs_a3 p4), (own_v1_171 xs_a3 p4), (own_v1_179 xs_a3 p4), (own_v1_187 xs_a3 p4), (own_v1_195 xs_a3 p4), t6, t7, t8] := V132
  have V133 := V124.other W131 n12
  have V134 := V125.other W131 n32
  have K135 := Keep.wr K126 W131 (Or.inl (List.mem_of_getElem? (i := 1) rfl))
  refine own_aloadN X129 own_d1_196 (pc' := 197) rfl (v := (.ref a2)) rfl rfl ?_
  refine own_bipush X129 own_d1_197 (pc' := 199) rfl (z := (6 : Int32)) rfl ?_
  refine own_lload X129 own_d1_199 (pc' := 201) rfl (v := (own_v1_46 xs_a3 p4)) rfl ?_
  refine own_bipush X129 own_d1_201 (pc' := 203) rfl (z := (32 : Int32)) rfl ?_
  refine own_lushr X129 own_d1_203 (pc' := 204) rfl (z := (((own_v1_46 xs_a3 p4).toUInt64 >>> (32 : UInt64)).toInt64)) rfl ?_
  refine own_lastore X129 V132 g_a2 (x := (own_v1_204 xs_a3 p4)) rfl 6 rfl (by decide) (by decide) own_d1_204 (pc' := 205) rfl fun T136 h137 lc139 X138 W140 V141 => ?_
  replace V141 : own_W Z h137 a2 (9 : Int32) [(own_v1_155 xs_a3 p4), (own_v1_163 xs_a3 p4), (own_v1_171 xs_a3 p4), (own_v1_179 xs_a3 p4), (own_v1_187 xs_a3 p4), (own_v1_195 xs_a3 p4), (own_v1_204 xs_a3 p4), t7, t8] := V141
  have V142 := V133.other W140 n12
  have V143 := V134.other W140 n32
  have K144 := Keep.wr K135 W140 (Or.inl (List.mem_of_getElem? (i := 1) rfl))
  refine own_aloadN X138 own_d1_205 (pc' := 206) rfl (v := (.ref a2)) rfl rfl ?_
  refine own_bipush X138 own_d1_206 (pc' := 208) rfl (z := (7 : Int32)) rfl ?_
  refine own_lload X138 own_d1_208 (pc' := 210) rfl (v := (own_v1_54 xs_a3 p4)) rfl ?_
  refine own_bipush X138 own_d1_210 (pc' := 212) rfl (z := (32 : Int32)) rfl ?_
  refine own_lushr X138 own_d1_212 (pc' := 213) rfl (z := (((own_v1_54 xs_a3 p4).toUInt64 >>> (32 : UInt64)).toInt64)) rfl ?_
  refine own_lastore X138 V141 g_a2 (x := (own_v1_213 xs_a3 p4)) rfl 7 rfl (by decide) (by decide) own_d1_213 (pc' := 214) rfl fun T145 h146 lc148 X147 W149 V150 => ?_
  replace V150 : own_W Z h146 a2 (9 : Int32) [(own_v1_155 xs_a3 p4), (own_v1_163 xs_a3 p4), (own_v1_171 xs_a3 p4), (own_v1_179 xs_a3 p4), (own_v1_187 xs_a3 p4), (own_v1_195 xs_a3 p4), (own_v1_204 xs_a3 p4), (own_v1_213 xs_a3 p4), t8] := V150
  have V151 := V142.other W149 n12
  have V152 := V143.other W149 n32
  have K153 := Keep.wr K144 W149 (Or.inl (List.mem_of_getElem? (i := 1) rfl))
  refine own_aloadN X147 own_d1_214 (pc' := 215) rfl (v := (.ref a2)) rfl rfl ?_
  refine own_bipush X147 own_d1_215 (pc' := 217) rfl (z := (8 : Int32)) rfl ?_
  refine own_lload X147 own_d1_217 (pc' := 219) rfl (v := (own_v1_62 xs_a3 p4)) rfl ?_
  refine own_bipush X147 own_d1_219 (pc' := 221) rfl (z := (32 : Int32)) rfl ?_
  refine own_lushr X147 own_d1_221 (pc' := 222) rfl (z := (((own_v1_62 xs_a3 p4).toUInt64 >>> (32 : UInt64)).toInt64)) rfl ?_
  refine own_lastore X147 V150 g_a2 (x := (own_v1_222 xs_a3 p4)) rfl 8 rfl (by decide) (by decide) own_d1_222 (pc' := 223) rfl fun T154 h155 lc157 X156 W158 V159 => ?_
  replace V159 : own_W Z h155 a2 (9 : Int32) [(own_v1_155 xs_a3 p4), (own_v1_163 xs_a3 p4), (own_v1_171 xs_a3 p4), (own_v1_179 xs_a3 p4), (own_v1_187 xs_a3 p4), (own_v1_195 xs_a3 p4), (own_v1_204 xs_a3 p4), (own_v1_213 xs_a3 p4), (own_v1_222 xs_a3 p4)] := V159
  have V160 := V151.other W158 n12
  have V161 := V152.other W158 n32
  have K162 := Keep.wr K153 W158 (Or.inl (List.mem_of_getElem? (i := 1) rfl))
  refine own_vret X156 hret own_d1_223 (by decide) (by decide) ?_
  exact ⟨rfl, K162, V160, V159⟩
theorem own_d2_0 : decode method_3_code 0 = .ok (.lload_n 0, 1) := by decide +kernel
theorem own_d2_1 : decode method_3_code 1 = .ok (.lconst 0, 1) := by decide +kernel
theorem own_d2_2 : decode method_3_code 2 = .ok (.lcmp, 1) := by decide +kernel
theorem own_d2_3 : decode method_3_code 3 = .ok (.ifCond .lt 41, 3) := by decide +kernel
theorem own_d2_6 : decode method_3_code 6 = .ok (.lload_n 0, 1) := by decide +kernel
theorem own_d2_7 : decode method_3_code 7 = .ok (.ldc2_w 23, 3) := by decide +kernel
theorem own_d2_10 : decode method_3_code 10 = .ok (.lcmp, 1) := by decide +kernel
theorem own_d2_11 : decode method_3_code 11 = .ok (.ifCond .gt 33, 3) := by decide +kernel
theorem own_d2_14 : decode method_3_code 14 = .ok (.lload_n 2, 1) := by decide +kernel
theorem own_d2_15 : decode method_3_code 15 = .ok (.lconst 0, 1) := by decide +kernel
theorem own_d2_16 : decode method_3_code 16 = .ok (.lcmp, 1) := by decide +kernel
theorem own_d2_17 : decode method_3_code 17 = .ok (.ifCond .lt 27, 3) := by decide +kernel
theorem own_d2_20 : decode method_3_code 20 = .ok (.lload_n 2, 1) := by decide +kernel
theorem own_d2_21 : decode method_3_code 21 = .ok (.ldc2_w 23, 3) := by decide +kernel
theorem own_d2_24 : decode method_3_code 24 = .ok (.lcmp, 1) := by decide +kernel
theorem own_d2_25 : decode method_3_code 25 = .ok (.ifCond .gt 19, 3) := by decide +kernel
theorem own_d2_28 : decode method_3_code 28 = .ok (.lload_n 0, 1) := by decide +kernel
theorem own_d2_29 : decode method_3_code 29 = .ok (.lload_n 2, 1) := by decide +kernel
theorem own_d2_30 : decode method_3_code 30 = .ok (.bipush 32, 2) := by decide +kernel
theorem own_d2_32 : decode method_3_code 32 = .ok (.lshl, 1) := by decide +kernel
theorem own_d2_33 : decode method_3_code 33 = .ok (.lor, 1) := by decide +kernel
theorem own_d2_34 : decode method_3_code 34 = .ok (.lload 4, 2) := by decide +kernel
theorem own_d2_36 : decode method_3_code 36 = .ok (.lcmp, 1) := by decide +kernel
theorem own_d2_37 : decode method_3_code 37 = .ok (.ifCond .ne 7, 3) := by decide +kernel
theorem own_d2_40 : decode method_3_code 40 = .ok (.iconst 1, 1) := by decide +kernel
theorem own_d2_41 : decode method_3_code 41 = .ok (.goto 4, 3) := by decide +kernel
theorem own_d2_44 : decode method_3_code 44 = .ok (.iconst 0, 1) := by decide +kernel
theorem own_d2_45 : decode method_3_code 45 = .ok (.ireturn, 1) := by decide +kernel
theorem own_ef2 (q1 : Int64) (q2 : Int64) (q3 : Int64) (m : MethodId) : entryFrame m #[(.long q1), (.long q2), (.long q3)] 6 = mkF m 0 #[.val (.long q1), .second, .val (.long q2), .second, .val (.long q3), .second] [] := by first | (simp [entryFrame, mkF, argsToLocals, Value.category]; done) | rfl
theorem own_pf2 : plainFor (⟨"marketmint/P256FieldUnpackPinLaw", "limb", "(JJJ)Z"⟩ : MethodName) = true := by first | exact plainFor_of_name (by first | (simp [plainName, overriddenIn]; done) | decide +kernel) | decide +kernel
def own_F2 (q1 : Int64) (q2 : Int64) (q3 : Int64) : Int32 := (if q1 < (0 : Int64) then (0 : Int32) else (if (4294967295 : Int64) < q1 then (0 : Int32) else (if q2 < (0 : Int64) then (0 : Int32) else (if (4294967295 : Int64) < q2 then (0 : Int32) else (if (q1 ||| (q2 <<< (32 : Int64))) = q3 then (1 : Int32) else (0 : Int32))))))
set_option maxRecDepth 65536 in
set_option maxHeartbeats 40000000 in
theorem own_rm2 (l : Launch) (Z : State) (a0 : Array Value) (hw : ∀ d ∈ tables_1, d.before a0 Z = true) (q1 : Int64) (q2 : Int64) (q3 : Int64) (h0 : Heap) (n0 : Nat) (Z0 : n0 ≤ h0.size) :
    own_Con l Z (⟨"marketmint/P256FieldUnpackPinLaw", "limb", "(JJJ)Z"⟩ : MethodName) method_3_code 6 (some .boolean) ({ frames := 0, cells := 0, slots := 0, locals := 0 } : Room) #[(.long q1), (.long q2), (.long q3)] h0 n0 (fun v h => v = some (.int (own_F2 q1 q2 q3)) ∧ h = h0) := by
  refine own_enter own_pf2 Z0 (own_ef2 q1 q2 q3) ?_
  intro p e s m below meth c T0 X0 hret hnm
  refine own_lloadN X0 own_d2_0 (pc' := 1) rfl (v := q1) rfl ?_
  refine own_lconst X0 own_d2_1 (pc' := 2) rfl (z := (0 : Int64)) rfl ?_
  by_cases hc1 : q1 < (0 : Int64)
  · refine own_ljY X0 own_d2_2 rfl own_d2_3 (own_tltL hc1).1 (by decide) (pc' := 44) rfl ?_
    refine own_iconst X0 own_d2_44 (pc' := 45) rfl (z := (0 : Int32)) rfl ?_
    refine own_iret X0 (t := .boolean) (w := (0 : Int32)) hret (by simp) own_d2_45 rfl (by decide) (by decide) ?_
    exact ⟨congrArg (fun t => some (Value.int t)) (show (0 : Int32) = own_F2 q1 q2 q3 from (by rw [own_F2, if_pos hc1])), rfl⟩
  · refine own_ljN X0 own_d2_2 rfl own_d2_3 (own_fltL hc1).1 (pc' := 6) rfl ?_
    refine own_lloadN X0 own_d2_6 (pc' := 7) rfl (v := q1) rfl ?_
    refine own_ldc2 X0 (hw _ (List.mem_of_getElem? (i := 12) rfl)) own_d2_7 (pc' := 10) rfl ?_
    by_cases hc2 : (4294967295 : Int64) < q1
    · refine own_ljY X0 own_d2_10 rfl own_d2_11 (own_tltL hc2).2.2.1 (by decide) (pc' := 44) rfl ?_
      refine own_iconst X0 own_d2_44 (pc' := 45) rfl (z := (0 : Int32)) rfl ?_
      refine own_iret X0 (t := .boolean) (w := (0 : Int32)) hret (by simp) own_d2_45 rfl (by decide) (by decide) ?_
      exact ⟨congrArg (fun t => some (Value.int t)) (show (0 : Int32) = own_F2 q1 q2 q3 from (by rw [own_F2, if_neg hc1, if_pos hc2])), rfl⟩
    · refine own_ljN X0 own_d2_10 rfl own_d2_11 (own_fltL hc2).2.2.1 (pc' := 14) rfl ?_
      refine own_lloadN X0 own_d2_14 (pc' := 15) rfl (v := q2) rfl ?_
      refine own_lconst X0 own_d2_15 (pc' := 16) rfl (z := (0 : Int64)) rfl ?_
      by_cases hc3 : q2 < (0 : Int64)
      · refine own_ljY X0 own_d2_16 rfl own_d2_17 (own_tltL hc3).1 (by decide) (pc' := 44) rfl ?_
        refine own_iconst X0 own_d2_44 (pc' := 45) rfl (z := (0 : Int32)) rfl ?_
        refine own_iret X0 (t := .boolean) (w := (0 : Int32)) hret (by simp) own_d2_45 rfl (by decide) (by decide) ?_
        exact ⟨congrArg (fun t => some (Value.int t)) (show (0 : Int32) = own_F2 q1 q2 q3 from (by rw [own_F2, if_neg hc1, if_neg hc2, if_pos hc3])), rfl⟩
      · refine own_ljN X0 own_d2_16 rfl own_d2_17 (own_fltL hc3).1 (pc' := 20) rfl ?_
        refine own_lloadN X0 own_d2_20 (pc' := 21) rfl (v := q2) rfl ?_
        refine own_ldc2 X0 (hw _ (List.mem_of_getElem? (i := 12) rfl)) own_d2_21 (pc' := 24) rfl ?_
        by_cases hc4 : (4294967295 : Int64) < q2
        · refine own_ljY X0 own_d2_24 rfl own_d2_25 (own_tltL hc4).2.2.1 (by decide) (pc' := 44) rfl ?_
          refine own_iconst X0 own_d2_44 (pc' := 45) rfl (z := (0 : Int32)) rfl ?_
          refine own_iret X0 (t := .boolean) (w := (0 : Int32)) hret (by simp) own_d2_45 rfl (by decide) (by decide) ?_
          exact ⟨congrArg (fun t => some (Value.int t)) (show (0 : Int32) = own_F2 q1 q2 q3 from (by rw [own_F2, if_neg hc1, if_neg hc2, if_neg hc3, if_pos hc4])), rfl⟩
        · refine own_ljN X0 own_d2_24 rfl own_d2_25 (own_fltL hc4).2.2.1 (pc' := 28) rfl ?_
          refine own_lloadN X0 own_d2_28 (pc' := 29) rfl (v := q1) rfl ?_
          refine own_lloadN X0 own_d2_29 (pc' := 30) rfl (v := q2) rfl ?_
          refine own_bipush X0 own_d2_30 (pc' := 32) rfl (z := (32 : Int32)) rfl ?_
          refine own_lshl X0 own_d2_32 (pc' := 33) rfl (z := (q2 <<< (32 : Int64))) rfl ?_
          refine own_lor X0 own_d2_33 (pc' := 34) rfl (z := (q1 ||| (q2 <<< (32 : Int64)))) rfl ?_
          refine own_lload X0 own_d2_34 (pc' := 36) rfl (v := q3) rfl ?_
          by_cases hc5 : (q1 ||| (q2 <<< (32 : Int64))) = q3
          · refine own_ljN X0 own_d2_36 rfl own_d2_37 (own_teqL hc5).2 (pc' := 40) rfl ?_
            refine own_iconst X0 own_d2_40 (pc' := 41) rfl (z := (1 : Int32)) rfl ?_
            refine own_goto X0 own_d2_41 (by decide) (pc' := 45) rfl ?_
            refine own_iret X0 (t := .boolean) (w := (1 : Int32)) hret (by simp) own_d2_45 rfl (by decide) (by decide) ?_
            exact ⟨congrArg (fun t => some (Value.int t)) (show (1 : Int32) = own_F2 q1 q2 q3 from (by rw [own_F2, if_neg hc1, if_neg hc2, if_neg hc3, if_neg hc4, if_pos hc5])), rfl⟩
          · refine own_ljY X0 own_d2_36 rfl own_d2_37 (own_feqL hc5).2 (by decide) (pc' := 44) rfl ?_
            refine own_iconst X0 own_d2_44 (pc' := 45) rfl (z := (0 : Int32)) rfl ?_
            refine own_iret X0 (t := .boolean) (w := (0 : Int32)) hret (by simp) own_d2_45 rfl (by decide) (by decide) ?_
            exact ⟨congrArg (fun t => some (Value.int t)) (show (0 : Int32) = own_F2 q1 q2 q3 from (by rw [own_F2, if_neg hc1, if_neg hc2, if_neg hc3, if_neg hc4, if_neg hc5])), rfl⟩
theorem own_pd0 : parseMethodDescriptor "([J[J[JI)V" = some ⟨[(.array .long), (.array .long), (.array .long), .int], none⟩ := by decide +kernel
theorem own_pd1 : parseMethodDescriptor "(JJJ)Z" = some ⟨[.long, .long, .long], some .boolean⟩ := by decide +kernel
theorem own_ef0 (q1 : Int64) (q2 : Int64) (q3 : Int64) (q4 : Int64) (q5 : Int64) (p6 : Int32) (m : MethodId) : entryFrame m #[(.long q1), (.long q2), (.long q3), (.long q4), (.long q5), (.int p6)] maxLocals = mkF m 0 #[.val (.long q1), .second, .val (.long q2), .second, .val (.long q3), .second, .val (.long q4), .second, .val (.long q5), .second, .val (.int p6), .unset, .unset, .unset, .unset, .unset, .unset, .unset] [] := by first | (simp [entryFrame, mkF, argsToLocals, Value.category, maxLocals]; done) | rfl
theorem own_pf0 : plainFor x = true := by first | exact plainFor_of_name (by first | (simp [plainName, overriddenIn]; done) | decide +kernel) | decide +kernel
def own_v0_334 (q1 : Int64) (q2 : Int64) (q3 : Int64) (q4 : Int64) (q5 : Int64) (p6 : Int32) : Int32 := (own_F2 (own_v1_72 [q1, q2, q3, q4, q5, (q1 ^^^ q2), (q3 - q4), (q5 ^^^ (-1 : Int64)), (q1 + q3), (q2 ^^^ q5), (q4 * (3 : Int64)), (q1 ^^^ (-1 : Int64))] (p6 &&& (3 : Int32))) (own_v1_155 [q1, q2, q3, q4, q5, (q1 ^^^ q2), (q3 - q4), (q5 ^^^ (-1 : Int64)), (q1 + q3), (q2 ^^^ q5), (q4 * (3 : Int64)), (q1 ^^^ (-1 : Int64))] (p6 &&& (3 : Int32))) (List.getD [q1, q2, q3, q4, q5, (q1 ^^^ q2), (q3 - q4), (q5 ^^^ (-1 : Int64)), (q1 + q3), (q2 ^^^ q5), (q4 * (3 : Int64)), (q1 ^^^ (-1 : Int64))] ((p6 &&& (3 : Int32)).toNatClampNeg) 0))
def own_v0_355 (q1 : Int64) (q2 : Int64) (q3 : Int64) (q4 : Int64) (q5 : Int64) (p6 : Int32) : Int32 := (own_F2 (own_v1_81 [q1, q2, q3, q4, q5, (q1 ^^^ q2), (q3 - q4), (q5 ^^^ (-1 : Int64)), (q1 + q3), (q2 ^^^ q5), (q4 * (3 : Int64)), (q1 ^^^ (-1 : Int64))] (p6 &&& (3 : Int32))) (own_v1_163 [q1, q2, q3, q4, q5, (q1 ^^^ q2), (q3 - q4), (q5 ^^^ (-1 : Int64)), (q1 + q3), (q2 ^^^ q5), (q4 * (3 : Int64)), (q1 ^^^ (-1 : Int64))] (p6 &&& (3 : Int32))) (List.getD [q1, q2, q3, q4, q5, (q1 ^^^ q2), (q3 - q4), (q5 ^^^ (-1 : Int64)), (q1 + q3), (q2 ^^^ q5), (q4 * (3 : Int64)), (q1 ^^^ (-1 : Int64))] (((p6 &&& (3 : Int32)) + (1 : Int32)).toNatClampNeg) 0))
def own_v0_376 (q1 : Int64) (q2 : Int64) (q3 : Int64) (q4 : Int64) (q5 : Int64) (p6 : Int32) : Int32 := (own_F2 (own_v1_90 [q1, q2, q3, q4, q5, (q1 ^^^ q2), (q3 - q4), (q5 ^^^ (-1 : Int64)), (q1 + q3), (q2 ^^^ q5), (q4 * (3 : Int64)), (q1 ^^^ (-1 : Int64))] (p6 &&& (3 : Int32))) (own_v1_171 [q1, q2, q3, q4, q5, (q1 ^^^ q2), (q3 - q4), (q5 ^^^ (-1 : Int64)), (q1 + q3), (q2 ^^^ q5), (q4 * (3 : Int64)), (q1 ^^^ (-1 : Int64))] (p6 &&& (3 : Int32))) (List.getD [q1, q2, q3, q4, q5, (q1 ^^^ q2), (q3 - q4), (q5 ^^^ (-1 : Int64)), (q1 + q3), (q2 ^^^ q5), (q4 * (3 : Int64)), (q1 ^^^ (-1 : Int64))] (((p6 &&& (3 : Int32)) + (2 : Int32)).toNatClampNeg) 0))
def own_v0_397 (q1 : Int64) (q2 : Int64) (q3 : Int64) (q4 : Int64) (q5 : Int64) (p6 : Int32) : Int32 := (own_F2 (own_v1_99 [q1, q2, q3, q4, q5, (q1 ^^^ q2), (q3 - q4), (q5 ^^^ (-1 : Int64)), (q1 + q3), (q2 ^^^ q5), (q4 * (3 : Int64)), (q1 ^^^ (-1 : Int64))] (p6 &&& (3 : Int32))) (own_v1_179 [q1, q2, q3, q4, q5, (q1 ^^^ q2), (q3 - q4), (q5 ^^^ (-1 : Int64)), (q1 + q3), (q2 ^^^ q5), (q4 * (3 : Int64)), (q1 ^^^ (-1 : Int64))] (p6 &&& (3 : Int32))) (List.getD [q1, q2, q3, q4, q5, (q1 ^^^ q2), (q3 - q4), (q5 ^^^ (-1 : Int64)), (q1 + q3), (q2 ^^^ q5), (q4 * (3 : Int64)), (q1 ^^^ (-1 : Int64))] (((p6 &&& (3 : Int32)) + (3 : Int32)).toNatClampNeg) 0))
def own_v0_418 (q1 : Int64) (q2 : Int64) (q3 : Int64) (q4 : Int64) (q5 : Int64) (p6 : Int32) : Int32 := (own_F2 (own_v1_108 [q1, q2, q3, q4, q5, (q1 ^^^ q2), (q3 - q4), (q5 ^^^ (-1 : Int64)), (q1 + q3), (q2 ^^^ q5), (q4 * (3 : Int64)), (q1 ^^^ (-1 : Int64))] (p6 &&& (3 : Int32))) (own_v1_187 [q1, q2, q3, q4, q5, (q1 ^^^ q2), (q3 - q4), (q5 ^^^ (-1 : Int64)), (q1 + q3), (q2 ^^^ q5), (q4 * (3 : Int64)), (q1 ^^^ (-1 : Int64))] (p6 &&& (3 : Int32))) (List.getD [q1, q2, q3, q4, q5, (q1 ^^^ q2), (q3 - q4), (q5 ^^^ (-1 : Int64)), (q1 + q3), (q2 ^^^ q5), (q4 * (3 : Int64)), (q1 ^^^ (-1 : Int64))] (((p6 &&& (3 : Int32)) + (4 : Int32)).toNatClampNeg) 0))
def own_v0_439 (q1 : Int64) (q2 : Int64) (q3 : Int64) (q4 : Int64) (q5 : Int64) (p6 : Int32) : Int32 := (own_F2 (own_v1_117 [q1, q2, q3, q4, q5, (q1 ^^^ q2), (q3 - q4), (q5 ^^^ (-1 : Int64)), (q1 + q3), (q2 ^^^ q5), (q4 * (3 : Int64)), (q1 ^^^ (-1 : Int64))] (p6 &&& (3 : Int32))) (own_v1_195 [q1, q2, q3, q4, q5, (q1 ^^^ q2), (q3 - q4), (q5 ^^^ (-1 : Int64)), (q1 + q3), (q2 ^^^ q5), (q4 * (3 : Int64)), (q1 ^^^ (-1 : Int64))] (p6 &&& (3 : Int32))) (List.getD [q1, q2, q3, q4, q5, (q1 ^^^ q2), (q3 - q4), (q5 ^^^ (-1 : Int64)), (q1 + q3), (q2 ^^^ q5), (q4 * (3 : Int64)), (q1 ^^^ (-1 : Int64))] (((p6 &&& (3 : Int32)) + (5 : Int32)).toNatClampNeg) 0))
def own_v0_463 (q1 : Int64) (q2 : Int64) (q3 : Int64) (q4 : Int64) (q5 : Int64) (p6 : Int32) : Int32 := (own_F2 (own_v1_127 [q1, q2, q3, q4, q5, (q1 ^^^ q2), (q3 - q4), (q5 ^^^ (-1 : Int64)), (q1 + q3), (q2 ^^^ q5), (q4 * (3 : Int64)), (q1 ^^^ (-1 : Int64))] (p6 &&& (3 : Int32))) (own_v1_204 [q1, q2, q3, q4, q5, (q1 ^^^ q2), (q3 - q4), (q5 ^^^ (-1 : Int64)), (q1 + q3), (q2 ^^^ q5), (q4 * (3 : Int64)), (q1 ^^^ (-1 : Int64))] (p6 &&& (3 : Int32))) (List.getD [q1, q2, q3, q4, q5, (q1 ^^^ q2), (q3 - q4), (q5 ^^^ (-1 : Int64)), (q1 + q3), (q2 ^^^ q5), (q4 * (3 : Int64)), (q1 ^^^ (-1 : Int64))] (((p6 &&& (3 : Int32)) + (6 : Int32)).toNatClampNeg) 0))
def own_v0_487 (q1 : Int64) (q2 : Int64) (q3 : Int64) (q4 : Int64) (q5 : Int64) (p6 : Int32) : Int32 := (own_F2 (own_v1_137 [q1, q2, q3, q4, q5, (q1 ^^^ q2), (q3 - q4), (q5 ^^^ (-1 : Int64)), (q1 + q3), (q2 ^^^ q5), (q4 * (3 : Int64)), (q1 ^^^ (-1 : Int64))] (p6 &&& (3 : Int32))) (own_v1_213 [q1, q2, q3, q4, q5, (q1 ^^^ q2), (q3 - q4), (q5 ^^^ (-1 : Int64)), (q1 + q3), (q2 ^^^ q5), (q4 * (3 : Int64)), (q1 ^^^ (-1 : Int64))] (p6 &&& (3 : Int32))) (List.getD [q1, q2, q3, q4, q5, (q1 ^^^ q2), (q3 - q4), (q5 ^^^ (-1 : Int64)), (q1 + q3), (q2 ^^^ q5), (q4 * (3 : Int64)), (q1 ^^^ (-1 : Int64))] (((p6 &&& (3 : Int32)) + (7 : Int32)).toNatClampNeg) 0))
def own_v0_511 (q1 : Int64) (q2 : Int64) (q3 : Int64) (q4 : Int64) (q5 : Int64) (p6 : Int32) : Int32 := (own_F2 (own_v1_147 [q1, q2, q3, q4, q5, (q1 ^^^ q2), (q3 - q4), (q5 ^^^ (-1 : Int64)), (q1 + q3), (q2 ^^^ q5), (q4 * (3 : Int64)), (q1 ^^^ (-1 : Int64))] (p6 &&& (3 : Int32))) (own_v1_222 [q1, q2, q3, q4, q5, (q1 ^^^ q2), (q3 - q4), (q5 ^^^ (-1 : Int64)), (q1 + q3), (q2 ^^^ q5), (q4 * (3 : Int64)), (q1 ^^^ (-1 : Int64))] (p6 &&& (3 : Int32))) (List.getD [q1, q2, q3, q4, q5, (q1 ^^^ q2), (q3 - q4), (q5 ^^^ (-1 : Int64)), (q1 + q3), (q2 ^^^ q5), (q4 * (3 : Int64)), (q1 ^^^ (-1 : Int64))] (((p6 &&& (3 : Int32)) + (8 : Int32)).toNatClampNeg) 0))
def own_j0_522 (q1 : Int64) (q2 : Int64) (q3 : Int64) (q4 : Int64) (q5 : Int64) (p6 : Int32) : Int32 := (if (own_v0_334 q1 q2 q3 q4 q5 p6) = (0 : Int32) then (0 : Int32) else (if (own_v0_355 q1 q2 q3 q4 q5 p6) = (0 : Int32) then (0 : Int32) else (if (own_v0_376 q1 q2 q3 q4 q5 p6) = (0 : Int32) then (0 : Int32) else (if (own_v0_397 q1 q2 q3 q4 q5 p6) = (0 : Int32) then (0 : Int32) else (if (own_v0_418 q1 q2 q3 q4 q5 p6) = (0 : Int32) then (0 : Int32) else (if (own_v0_439 q1 q2 q3 q4 q5 p6) = (0 : Int32) then (0 : Int32) else (if (own_v0_463 q1 q2 q3 q4 q5 p6) = (0 : Int32) then (0 : Int32) else (if (own_v0_487 q1 q2 q3 q4 q5 p6) = (0 : Int32) then (0 : Int32) else (if (own_v0_511 q1 q2 q3 q4 q5 p6) = (0 : Int32) then (0 : Int32) else (1 : Int32))))))))))
def own_F0 (q1 : Int64) (q2 : Int64) (q3 : Int64) (q4 : Int64) (q5 : Int64) (p6 : Int32) : Int32 := (if (own_j0_522 q1 q2 q3 q4 q5 p6) = (0 : Int32) then (0 : Int32) else (1 : Int32))
-- LEMMAS
theorem own_m3 (p : Int32) : 0 ≤ (p &&& 3).toInt ∧ (p &&& 3).toInt ≤ 3 := by
  have a1 : (p &&& 3).toInt = p.toInt % 4 := own_mk (k := 2) (by decide) (by decide)
  omega
theorem own_a0 (p : Int32) : ¬ (p &&& 3) < (0 : Int32) := by
  have e0 : (0 : Int32).toInt = 0 := rfl
  rw [own_lt]; have := own_m3 p; omega
theorem own_a3 (p : Int32) : ¬ (3 : Int32) < (p &&& 3) := by
  have e0 : (3 : Int32).toInt = 3 := rfl
  rw [own_lt]; have := own_m3 p; omega
-- END LEMMAS
set_option maxRecDepth 65536 in
set_option maxHeartbeats 40000000 in
theorem own_rm0 (l : Launch) (Z : State) (a0 : Array Value) (hw : ∀ d ∈ tables_1, d.before a0 Z = true) (q1 : Int64) (q2 : Int64) (q3 : Int64) (q4 : Int64) (q5 : Int64) (p6 : Int32) (h0 : Heap) (n0 : Nat) (Z0 : n0 ≤ h0.size) :
    own_Con l Z x code maxLocals ret room_1 #[(.long q1), (.long q2), (.long q3), (.long q4), (.long q5), (.int p6)] h0 n0 (fun v h => v = some (.int (own_F0 q1 q2 q3 q4 q5 p6))) := by
  refine own_enter own_pf0 Z0 (own_ef0 q1 q2 q3 q4 q5 p6) ?_
  intro p e s m below meth c T0 X0 hret hnm
  refine own_iload X0 at_0 (pc' := 2) rfl (v := p6) rfl ?_
  refine own_iconst X0 at_2 (pc' := 3) rfl (z := (3 : Int32)) rfl ?_
  refine own_iand X0 at_3 (pc' := 4) rfl (z := (p6 &&& (3 : Int32))) rfl ?_
  refine own_istore X0 at_4 (pc' := 6) rfl (y := (p6 &&& (3 : Int32))) rfl (Ls' := #[.val (.long q1), .second, .val (.long q2), .second, .val (.long q3), .second, .val (.long q4), .second, .val (.long q5), .second, .val (.int p6), .val (.int (p6 &&& (3 : Int32))), .unset, .unset, .unset, .unset, .unset, .unset]) rfl ?_
  refine own_bipush X0 at_6 (pc' := 8) rfl (z := (12 : Int32)) rfl ?_
  refine own_newW X0 (hw _ (List.mem_of_getElem? (i := 0) rfl)) (by decide) 12 (by decide) (by decide) (by decide) (by decide) at_8 (pc' := 10) rfl fun T2 h3 b1 X4 Ex5 hs6 g7 V8 => ?_
  replace V8 : own_W Z h3 b1 (12 : Int32) [(0 : Int64), (0 : Int64), (0 : Int64), (0 : Int64), (0 : Int64), (0 : Int64), (0 : Int64), (0 : Int64), (0 : Int64), (0 : Int64), (0 : Int64), (0 : Int64)] := V8
  refine own_dup X4 at_10 (pc' := 11) rfl rfl ?_
  refine own_iconst X4 at_11 (pc' := 12) rfl (z := (0 : Int32)) rfl ?_
  refine own_lloadN X4 at_12 (pc' := 13) rfl (v := q1) rfl ?_
  refine own_lastore X4 V8 g7 (x := q1) rfl 0 rfl (by decide) (by decide) at_13 (pc' := 14) rfl fun T9 h10 lc12 X11 W13 V14 => ?_
  replace V14 : own_W Z h10 b1 (12 : Int32) [q1, (0 : Int64), (0 : Int64), (0 : Int64), (0 : Int64), (0 : Int64), (0 : Int64), (0 : Int64), (0 : Int64), (0 : Int64), (0 : Int64), (0 : Int64)] := V14
  refine own_dup X11 at_14 (pc' := 15) rfl rfl ?_
  refine own_iconst X11 at_15 (pc' := 16) rfl (z := (1 : Int32)) rfl ?_
  refine own_lloadN X11 at_16 (pc' := 17) rfl (v := q2) rfl ?_
  refine own_lastore X11 V14 g7 (x := q2) rfl 1 rfl (by decide) (by decide) at_17 (pc' := 18) rfl fun T15 h16 lc18 X17 W19 V20 => ?_
  replace V20 : own_W Z h16 b1 (12 : Int32) [q1, q2, (0 : Int64), (0 : Int64), (0 : Int64), (0 : Int64), (0 : Int64), (0 : Int64), (0 : Int64), (0 : Int64), (0 : Int64), (0 : Int64)] := V20
  refine own_dup X17 at_18 (pc' := 19) rfl rfl ?_
  refine own_iconst X17 at_19 (pc' := 20) rfl (z := (2 : Int32)) rfl ?_
  refine own_lload X17 at_20 (pc' := 22) rfl (v := q3) rfl ?_
  refine own_lastore X17 V20 g7 (x := q3) rfl 2 rfl (by decide) (by decide) at_22 (pc' := 23) rfl fun T21 h22 lc24 X23 W25 V26 => ?_
  replace V26 : own_W Z h22 b1 (12 : Int32) [q1, q2, q3, (0 : Int64), (0 : Int64), (0 : Int64), (0 : Int64), (0 : Int64), (0 : Int64), (0 : Int64), (0 : Int64), (0 : Int64)] := V26
  refine own_dup X23 at_23 (pc' := 24) rfl rfl ?_
  refine own_iconst X23 at_24 (pc' := 25) rfl (z := (3 : Int32)) rfl ?_
  refine own_lload X23 at_25 (pc' := 27) rfl (v := q4) rfl ?_
  refine own_lastore X23 V26 g7 (x := q4) rfl 3 rfl (by decide) (by decide) at_27 (pc' := 28) rfl fun T27 h28 lc30 X29 W31 V32 => ?_
  replace V32 : own_W Z h28 b1 (12 : Int32) [q1, q2, q3, q4, (0 : Int64), (0 : Int64), (0 : Int64), (0 : Int64), (0 : Int64), (0 : Int64), (0 : Int64), (0 : Int64)] := V32
  refine own_dup X29 at_28 (pc' := 29) rfl rfl ?_
  refine own_iconst X29 at_29 (pc' := 30) rfl (z := (4 : Int32)) rfl ?_
  refine own_lload X29 at_30 (pc' := 32) rfl (v := q5) rfl ?_
  refine own_lastore X29 V32 g7 (x := q5) rfl 4 rfl (by decide) (by decide) at_32 (pc' := 33) rfl fun T33 h34 lc36 X35 W37 V38 => ?_
  replace V38 : own_W Z h34 b1 (12 : Int32) [q1, q2, q3, q4, q5, (0 : Int64), (0 : Int64), (0 : Int64), (0 : Int64), (0 : Int64), (0 : Int64), (0 : Int64)] := V38
  refine own_dup X35 at_33 (pc' := 34) rfl rfl ?_
  refine own_iconst X35 at_34 (pc' := 35) rfl (z := (5 : Int32)) rfl ?_
  refine own_lloadN X35 at_35 (pc' := 36) rfl (v := q1) rfl ?_
  refine own_lloadN X35 at_36 (pc' := 37) rfl (v := q2) rfl ?_
  refine own_lxor X35 at_37 (pc' := 38) rfl (z := (q1 ^^^ q2)) rfl ?_
  refine own_lastore X35 V38 g7 (x := (q1 ^^^ q2)) rfl 5 rfl (by decide) (by decide) at_38 (pc' := 39) rfl fun T39 h40 lc42 X41 W43 V44 => ?_
  replace V44 : own_W Z h40 b1 (12 : Int32) [q1, q2, q3, q4, q5, (q1 ^^^ q2), (0 : Int64), (0 : Int64), (0 : Int64), (0 : Int64), (0 : Int64), (0 : Int64)] := V44
  refine own_dup X41 at_39 (pc' := 40) rfl rfl ?_
  refine own_bipush X41 at_40 (pc' := 42) rfl (z := (6 : Int32)) rfl ?_
  refine own_lload X41 at_42 (pc' := 44) rfl (v := q3) rfl ?_
  refine own_lload X41 at_44 (pc' := 46) rfl (v := q4) rfl ?_
  refine own_lsub X41 at_46 (pc' := 47) rfl (z := (q3 - q4)) rfl ?_
  refine own_lastore X41 V44 g7 (x := (q3 - q4)) rfl 6 rfl (by decide) (by decide) at_47 (pc' := 48) rfl fun T45 h46 lc48 X47 W49 V50 => ?_
  replace V50 : own_W Z h46 b1 (12 : Int32) [q1, q2, q3, q4, q5, (q1 ^^^ q2), (q3 - q4), (0 : Int64), (0 : Int64), (0 : Int64), (0 : Int64), (0 : Int64)] := V50
  refine own_dup X47 at_48 (pc' := 49) rfl rfl ?_
  refine own_bipush X47 at_49 (pc' := 51) rfl (z := (7 : Int32)) rfl ?_
  refine own_lload X47 at_51 (pc' := 53) rfl (v := q5) rfl ?_
  refine own_ldc2 X47 (hw _ (List.mem_of_getElem? (i := 1) rfl)) at_53 (pc' := 56) rfl ?_
  refine own_lxor X47 at_56 (pc' := 57) rfl (z := (q5 ^^^ (-1 : Int64))) rfl ?_
  refine own_lastore X47 V50 g7 (x := (q5 ^^^ (-1 : Int64))) rfl 7 rfl (by decide) (by decide) at_57 (pc' := 58) rfl fun T51 h52 lc54 X53 W55 V56 => ?_
  replace V56 : own_W Z h52 b1 (12 : Int32) [q1, q2, q3, q4, q5, (q1 ^^^ q2), (q3 - q4), (q5 ^^^ (-1 : Int64)), (0 : Int64), (0 : Int64), (0 : Int64), (0 : Int64)] := V56
  refine own_dup X53 at_58 (pc' := 59) rfl rfl ?_
  refine own_bipush X53 at_59 (pc' := 61) rfl (z := (8 : Int32)) rfl ?_
  refine own_lloadN X53 at_61 (pc' := 62) rfl (v := q1) rfl ?_
  refine own_lload X53 at_62 (pc' := 64) rfl (v := q3) rfl ?_
  refine own_ladd X53 at_64 (pc' := 65) rfl (z := (q1 + q3)) rfl ?_
  refine own_lastore X53 V56 g7 (x := (q1 + q3)) rfl 8 rfl (by decide) (by decide) at_65 (pc' := 66) rfl fun T57 h58 lc60 X59 W61 V62 => ?_
  replace V62 : own_W Z h58 b1 (12 : Int32) [q1, q2, q3, q4, q5, (q1 ^^^ q2), (q3 - q4), (q5 ^^^ (-1 : Int64)), (q1 + q3), (0 : Int64), (0 : Int64), (0 : Int64)] := V62
  refine own_dup X59 at_66 (pc' := 67) rfl rfl ?_
  refine own_bipush X59 at_67 (pc' := 69) rfl (z := (9 : Int32)) rfl ?_
  refine own_lloadN X59 at_69 (pc' := 70) rfl (v := q2) rfl ?_
  refine own_lload X59 at_70 (pc' := 72) rfl (v := q5) rfl ?_
  refine own_lxor X59 at_72 (pc' := 73) rfl (z := (q2 ^^^ q5)) rfl ?_
  refine own_lastore X59 V62 g7 (x := (q2 ^^^ q5)) rfl 9 rfl (by decide) (by decide) at_73 (pc' := 74) rfl fun T63 h64 lc66 X65 W67 V68 => ?_
  replace V68 : own_W Z h64 b1 (12 : Int32) [q1, q2, q3, q4, q5, (q1 ^^^ q2), (q3 - q4), (q5 ^^^ (-1 : Int64)), (q1 + q3), (q2 ^^^ q5), (0 : Int64), (0 : Int64)] := V68
  refine own_dup X65 at_74 (pc' := 75) rfl rfl ?_
  refine own_bipush X65 at_75 (pc' := 77) rfl (z := (10 : Int32)) rfl ?_
  refine own_lload X65 at_77 (pc' := 79) rfl (v := q4) rfl ?_
  refine own_ldc2 X65 (hw _ (List.mem_of_getElem? (i := 2) rfl)) at_79 (pc' := 82) rfl ?_
  refine own_lmul X65 at_82 (pc' := 83) rfl (z := (q4 * (3 : Int64))) rfl ?_
  refine own_lastore X65 V68 g7 (x := (q4 * (3 : Int64))) rfl 10 rfl (by decide) (by decide) at_83 (pc' := 84) rfl fun T69 h70 lc72 X71 W73 V74 => ?_
  replace V74 : own_W Z h70 b1 (12 : Int32) [q1, q2, q3, q4, q5, (q1 ^^^ q2), (q3 - q4), (q5 ^^^ (-1 : Int64)), (q1 + q3), (q2 ^^^ q5), (q4 * (3 : Int64)), (0 : Int64)] := V74
  refine own_dup X71 at_84 (pc' := 85) rfl rfl ?_
  refine own_bipush X71 at_85 (pc' := 87) rfl (z := (11 : Int32)) rfl ?_
  refine own_lloadN X71 at_87 (pc' := 88) rfl (v := q1) rfl ?_
  refine own_ldc2 X71 (hw _ (List.mem_of_getElem? (i := 1) rfl)) at_88 (pc' := 91) rfl ?_
  refine own_lxor X71 at_91 (pc' := 92) rfl (z := (q1 ^^^ (-1 : Int64))) rfl ?_
  refine own_lastore X71 V74 g7 (x := (q1 ^^^ (-1 : Int64))) rfl 11 rfl (by decide) (by decide) at_92 (pc' := 93) rfl fun T75 h76 lc78 X77 W79 V80 => ?_
  replace V80 : own_W Z h76 b1 (12 : Int32) [q1, q2, q3, q4, q5, (q1 ^^^ q2), (q3 - q4), (q5 ^^^ (-1 : Int64)), (q1 + q3), (q2 ^^^ q5), (q4 * (3 : Int64)), (q1 ^^^ (-1 : Int64))] := V80
  refine own_astore X77 at_93 (pc' := 95) rfl rfl (Ls' := #[.val (.long q1), .second, .val (.long q2), .second, .val (.long q3), .second, .val (.long q4), .second, .val (.long q5), .second, .val (.int p6), .val (.int (p6 &&& (3 : Int32))), .val (.ref b1), .unset, .unset, .unset, .unset, .unset]) rfl ?_
  refine own_bipush X77 at_95 (pc' := 97) rfl (z := (12 : Int32)) rfl ?_
  refine own_newW X77 (hw _ (List.mem_of_getElem? (i := 0) rfl)) (by decide) 12 (by decide) (by decide) (by decide) (by decide) at_97 (pc' := 99) rfl fun T82 h83 b81 X84 Ex85 hs86 g87 V88 => ?_
  have ne89 : b1 ≠ b81 := Nat.ne_of_lt (Nat.lt_of_lt_of_eq V80.lt hs86)
  have V90 := V80.ext Ex85
  replace V88 : own_W Z h83 b81 (12 : Int32) [(0 : Int64), (0 : Int64), (0 : Int64), (0 : Int64), (0 : Int64), (0 : Int64), (0 : Int64), (0 : Int64), (0 : Int64), (0 : Int64), (0 : Int64), (0 : Int64)] := V88
  refine own_dup X84 at_99 (pc' := 100) rfl rfl ?_
  refine own_iconst X84 at_100 (pc' := 101) rfl (z := (0 : Int32)) rfl ?_
  refine own_lloadN X84 at_101 (pc' := 102) rfl (v := q1) rfl ?_
  refine own_lastore X84 V88 g87 (x := q1) rfl 0 rfl (by decide) (by decide) at_102 (pc' := 103) rfl fun T91 h92 lc94 X93 W95 V96 => ?_
  replace V96 : own_W Z h92 b81 (12 : Int32) [q1, (0 : Int64), (0 : Int64), (0 : Int64), (0 : Int64), (0 : Int64), (0 : Int64), (0 : Int64), (0 : Int64), (0 : Int64), (0 : Int64), (0 : Int64)] := V96
  have V97 := V90.other W95 ne89
  refine own_dup X93 at_103 (pc' := 104) rfl rfl ?_
  refine own_iconst X93 at_104 (pc' := 105) rfl (z := (1 : Int32)) rfl ?_
  refine own_lloadN X93 at_105 (pc' := 106) rfl (v := q2) rfl ?_
  refine own_lastore X93 V96 g87 (x := q2) rfl 1 rfl (by decide) (by decide) at_106 (pc' := 107) rfl fun T98 h99 lc101 X100 W102 V103 => ?_
  replace V103 : own_W Z h99 b81 (12 : Int32) [q1, q2, (0 : Int64), (0 : Int64), (0 : Int64), (0 : Int64), (0 : Int64), (0 : Int64), (0 : Int64), (0 : Int64), (0 : Int64), (0 : Int64)] := V103
  have V104 := V97.other W102 ne89
  refine own_dup X100 at_107 (pc' := 108) rfl rfl ?_
  refine own_iconst X100 at_108 (pc' := 109) rfl (z := (2 : Int32)) rfl ?_
  refine own_lload X100 at_109 (pc' := 111) rfl (v := q3) rfl ?_
  refine own_lastore X100 V103 g87 (x := q3) rfl 2 rfl (by decide) (by decide) at_111 (pc' := 112) rfl fun T105 h106 lc108 X107 W109 V110 => ?_
  replace V110 : own_W Z h106 b81 (12 : Int32) [q1, q2, q3, (0 : Int64), (0 : Int64), (0 : Int64), (0 : Int64), (0 : Int64), (0 : Int64), (0 : Int64), (0 : Int64), (0 : Int64)] := V110
  have V111 := V104.other W109 ne89
  refine own_dup X107 at_112 (pc' := 113) rfl rfl ?_
  refine own_iconst X107 at_113 (pc' := 114) rfl (z := (3 : Int32)) rfl ?_
  refine own_lload X107 at_114 (pc' := 116) rfl (v := q4) rfl ?_
  refine own_lastore X107 V110 g87 (x := q4) rfl 3 rfl (by decide) (by decide) at_116 (pc' := 117) rfl fun T112 h113 lc115 X114 W116 V117 => ?_
  replace V117 : own_W Z h113 b81 (12 : Int32) [q1, q2, q3, q4, (0 : Int64), (0 : Int64), (0 : Int64), (0 : Int64), (0 : Int64), (0 : Int64), (0 : Int64), (0 : Int64)] := V117
  have V118 := V111.other W116 ne89
  refine own_dup X114 at_117 (pc' := 118) rfl rfl ?_
  refine own_iconst X114 at_118 (pc' := 119) rfl (z := (4 : Int32)) rfl ?_
  refine own_lload X114 at_119 (pc' := 121) rfl (v := q5) rfl ?_
  refine own_lastore X114 V117 g87 (x := q5) rfl 4 rfl (by decide) (by decide) at_121 (pc' := 122) rfl fun T119 h120 lc122 X121 W123 V124 => ?_
  replace V124 : own_W Z h120 b81 (12 : Int32) [q1, q2, q3, q4, q5, (0 : Int64), (0 : Int64), (0 : Int64), (0 : Int64), (0 : Int64), (0 : Int64), (0 : Int64)] := V124
  have V125 := V118.other W123 ne89
  refine own_dup X121 at_122 (pc' := 123) rfl rfl ?_
  refine own_iconst X121 at_123 (pc' := 124) rfl (z := (5 : Int32)) rfl ?_
  refine own_lloadN X121 at_124 (pc' := 125) rfl (v := q1) rfl ?_
  refine own_lloadN X121 at_125 (pc' := 126) rfl (v := q2) rfl ?_
  refine own_lxor X121 at_126 (pc' := 127) rfl (z := (q1 ^^^ q2)) rfl ?_
  refine own_lastore X121 V124 g87 (x := (q1 ^^^ q2)) rfl 5 rfl (by decide) (by decide) at_127 (pc' := 128) rfl fun T126 h127 lc129 X128 W130 V131 => ?_
  replace V131 : own_W Z h127 b81 (12 : Int32) [q1, q2, q3, q4, q5, (q1 ^^^ q2), (0 : Int64), (0 : Int64), (0 : Int64), (0 : Int64), (0 : Int64), (0 : Int64)] := V131
  have V132 := V125.other W130 ne89
  refine own_dup X128 at_128 (pc' := 129) rfl rfl ?_
  refine own_bipush X128 at_129 (pc' := 131) rfl (z := (6 : Int32)) rfl ?_
  refine own_lload X128 at_131 (pc' := 133) rfl (v := q3) rfl ?_
  refine own_lload X128 at_133 (pc' := 135) rfl (v := q4) rfl ?_
  refine own_lsub X128 at_135 (pc' := 136) rfl (z := (q3 - q4)) rfl ?_
  refine own_lastore X128 V131 g87 (x := (q3 - q4)) rfl 6 rfl (by decide) (by decide) at_136 (pc' := 137) rfl fun T133 h134 lc136 X135 W137 V138 => ?_
  replace V138 : own_W Z h134 b81 (12 : Int32) [q1, q2, q3, q4, q5, (q1 ^^^ q2), (q3 - q4), (0 : Int64), (0 : Int64), (0 : Int64), (0 : Int64), (0 : Int64)] := V138
  have V139 := V132.other W137 ne89
  refine own_dup X135 at_137 (pc' := 138) rfl rfl ?_
  refine own_bipush X135 at_138 (pc' := 140) rfl (z := (7 : Int32)) rfl ?_
  refine own_lload X135 at_140 (pc' := 142) rfl (v := q5) rfl ?_
  refine own_ldc2 X135 (hw _ (List.mem_of_getElem? (i := 1) rfl)) at_142 (pc' := 145) rfl ?_
  refine own_lxor X135 at_145 (pc' := 146) rfl (z := (q5 ^^^ (-1 : Int64))) rfl ?_
  refine own_lastore X135 V138 g87 (x := (q5 ^^^ (-1 : Int64))) rfl 7 rfl (by decide) (by decide) at_146 (pc' := 147) rfl fun T140 h141 lc143 X142 W144 V145 => ?_
  replace V145 : own_W Z h141 b81 (12 : Int32) [q1, q2, q3, q4, q5, (q1 ^^^ q2), (q3 - q4), (q5 ^^^ (-1 : Int64)), (0 : Int64), (0 : Int64), (0 : Int64), (0 : Int64)] := V145
  have V146 := V139.other W144 ne89
  refine own_dup X142 at_147 (pc' := 148) rfl rfl ?_
  refine own_bipush X142 at_148 (pc' := 150) rfl (z := (8 : Int32)) rfl ?_
  refine own_lloadN X142 at_150 (pc' := 151) rfl (v := q1) rfl ?_
  refine own_lload X142 at_151 (pc' := 153) rfl (v := q3) rfl ?_
  refine own_ladd X142 at_153 (pc' := 154) rfl (z := (q1 + q3)) rfl ?_
  refine own_lastore X142 V145 g87 (x := (q1 + q3)) rfl 8 rfl (by decide) (by decide) at_154 (pc' := 155) rfl fun T147 h148 lc150 X149 W151 V152 => ?_
  replace V152 : own_W Z h148 b81 (12 : Int32) [q1, q2, q3, q4, q5, (q1 ^^^ q2), (q3 - q4), (q5 ^^^ (-1 : Int64)), (q1 + q3), (0 : Int64), (0 : Int64), (0 : Int64)] := V152
  have V153 := V146.other W151 ne89
  refine own_dup X149 at_155 (pc' := 156) rfl rfl ?_
  refine own_bipush X149 at_156 (pc' := 158) rfl (z := (9 : Int32)) rfl ?_
  refine own_lloadN X149 at_158 (pc' := 159) rfl (v := q2) rfl ?_
  refine own_lload X149 at_159 (pc' := 161) rfl (v := q5) rfl ?_
  refine own_lxor X149 at_161 (pc' := 162) rfl (z := (q2 ^^^ q5)) rfl ?_
  refine own_lastore X149 V152 g87 (x := (q2 ^^^ q5)) rfl 9 rfl (by decide) (by decide) at_162 (pc' := 163) rfl fun T154 h155 lc157 X156 W158 V159 => ?_
  replace V159 : own_W Z h155 b81 (12 : Int32) [q1, q2, q3, q4, q5, (q1 ^^^ q2), (q3 - q4), (q5 ^^^ (-1 : Int64)), (q1 + q3), (q2 ^^^ q5), (0 : Int64), (0 : Int64)] := V159
  have V160 := V153.other W158 ne89
  refine own_dup X156 at_163 (pc' := 164) rfl rfl ?_
  refine own_bipush X156 at_164 (pc' := 166) rfl (z := (10 : Int32)) rfl ?_
  refine own_lload X156 at_166 (pc' := 168) rfl (v := q4) rfl ?_
  refine own_ldc2 X156 (hw _ (List.mem_of_getElem? (i := 2) rfl)) at_168 (pc' := 171) rfl ?_
  refine own_lmul X156 at_171 (pc' := 172) rfl (z := (q4 * (3 : Int64))) rfl ?_
  refine own_lastore X156 V159 g87 (x := (q4 * (3 : Int64))) rfl 10 rfl (by decide) (by decide) at_172 (pc' := 173) rfl fun T161 h162 lc164 X163 W165 V166 => ?_
  replace V166 : own_W Z h162 b81 (12 : Int32) [q1, q2, q3, q4, q5, (q1 ^^^ q2), (q3 - q4), (q5 ^^^ (-1 : Int64)), (q1 + q3), (q2 ^^^ q5), (q4 * (3 : Int64)), (0 : Int64)] := V166
  have V167 := V160.other W165 ne89
  refine own_dup X163 at_173 (pc' := 174) rfl rfl ?_
  refine own_bipush X163 at_174 (pc' := 176) rfl (z := (11 : Int32)) rfl ?_
  refine own_lloadN X163 at_176 (pc' := 177) rfl (v := q1) rfl ?_
  refine own_ldc2 X163 (hw _ (List.mem_of_getElem? (i := 1) rfl)) at_177 (pc' := 180) rfl ?_
  refine own_lxor X163 at_180 (pc' := 181) rfl (z := (q1 ^^^ (-1 : Int64))) rfl ?_
  refine own_lastore X163 V166 g87 (x := (q1 ^^^ (-1 : Int64))) rfl 11 rfl (by decide) (by decide) at_181 (pc' := 182) rfl fun T168 h169 lc171 X170 W172 V173 => ?_
  replace V173 : own_W Z h169 b81 (12 : Int32) [q1, q2, q3, q4, q5, (q1 ^^^ q2), (q3 - q4), (q5 ^^^ (-1 : Int64)), (q1 + q3), (q2 ^^^ q5), (q4 * (3 : Int64)), (q1 ^^^ (-1 : Int64))] := V173
  have V174 := V167.other W172 ne89
  refine own_astore X170 at_182 (pc' := 184) rfl rfl (Ls' := #[.val (.long q1), .second, .val (.long q2), .second, .val (.long q3), .second, .val (.long q4), .second, .val (.long q5), .second, .val (.int p6), .val (.int (p6 &&& (3 : Int32))), .val (.ref b1), .val (.ref b81), .unset, .unset, .unset, .unset]) rfl ?_
  refine own_bipush X170 at_184 (pc' := 186) rfl (z := (9 : Int32)) rfl ?_
  refine own_newW X170 (hw _ (List.mem_of_getElem? (i := 0) rfl)) (by decide) 9 (by decide) (by decide) (by decide) (by decide) at_186 (pc' := 188) rfl fun T176 h177 b175 X178 Ex179 hs180 g181 V182 => ?_
  have ne183 : b1 ≠ b175 := Nat.ne_of_lt (Nat.lt_of_lt_of_eq V174.lt hs180)
  have ne184 : b81 ≠ b175 := Nat.ne_of_lt (Nat.lt_of_lt_of_eq V173.lt hs180)
  have V185 := V174.ext Ex179
  have V186 := V173.ext Ex179
  replace V182 : own_W Z h177 b175 (9 : Int32) [(0 : Int64), (0 : Int64), (0 : Int64), (0 : Int64), (0 : Int64), (0 : Int64), (0 : Int64), (0 : Int64), (0 : Int64)] := V182
  refine own_dup X178 at_188 (pc' := 189) rfl rfl ?_
  refine own_iconst X178 at_189 (pc' := 190) rfl (z := (0 : Int32)) rfl ?_
  refine own_ldc2 X178 (hw _ (List.mem_of_getElem? (i := 1) rfl)) at_190 (pc' := 193) rfl ?_
  refine own_lastore X178 V182 g181 (x := (-1 : Int64)) rfl 0 rfl (by decide) (by decide) at_193 (pc' := 194) rfl fun T187 h188 lc190 X189 W191 V192 => ?_
  replace V192 : own_W Z h188 b175 (9 : Int32) [(-1 : Int64), (0 : Int64), (0 : Int64), (0 : Int64), (0 : Int64), (0 : Int64), (0 : Int64), (0 : Int64), (0 : Int64)] := V192
  have V193 := V185.other W191 ne183
  have V194 := V186.other W191 ne184
  refine own_dup X189 at_194 (pc' := 195) rfl rfl ?_
  refine own_iconst X189 at_195 (pc' := 196) rfl (z := (1 : Int32)) rfl ?_
  refine own_ldc2 X189 (hw _ (List.mem_of_getElem? (i := 1) rfl)) at_196 (pc' := 199) rfl ?_
  refine own_lastore X189 V192 g181 (x := (-1 : Int64)) rfl 1 rfl (by decide) (by decide) at_199 (pc' := 200) rfl fun T195 h196 lc198 X197 W199 V200 => ?_
  replace V200 : own_W Z h196 b175 (9 : Int32) [(-1 : Int64), (-1 : Int64), (0 : Int64), (0 : Int64), (0 : Int64), (0 : Int64), (0 : Int64), (0 : Int64), (0 : Int64)] := V200
  have V201 := V193.other W199 ne183
  have V202 := V194.other W199 ne184
  refine own_dup X197 at_200 (pc' := 201) rfl rfl ?_
  refine own_iconst X197 at_201 (pc' := 202) rfl (z := (2 : Int32)) rfl ?_
  refine own_ldc2 X197 (hw _ (List.mem_of_getElem? (i := 1) rfl)) at_202 (pc' := 205) rfl ?_
  refine own_lastore X197 V200 g181 (x := (-1 : Int64)) rfl 2 rfl (by decide) (by decide) at_205 (pc' := 206) rfl fun T203 h204 lc206 X205 W207 V208 => ?_
  replace V208 : own_W Z h204 b175 (9 : Int32) [(-1 : Int64), (-1 : Int64), (-1 : Int64), (0 : Int64), (0 : Int64), (0 : Int64), (0 : Int64), (0 : Int64), (0 : Int64)] := V208
  have V209 := V201.other W207 ne183
  have V210 := V202.other W207 ne184
  refine own_dup X205 at_206 (pc' := 207) rfl rfl ?_
  refine own_iconst X205 at_207 (pc' := 208) rfl (z := (3 : Int32)) rfl ?_
  refine own_ldc2 X205 (hw _ (List.mem_of_getElem? (i := 1) rfl)) at_208 (pc' := 211) rfl ?_
  refine own_lastore X205 V208 g181 (x := (-1 : Int64)) rfl 3 rfl (by decide) (by decide) at_211 (pc' := 212) rfl fun T211 h212 lc214 X213 W215 V216 => ?_
  replace V216 : own_W Z h212 b175 (9 : Int32) [(-1 : Int64), (-1 : Int64), (-1 : Int64), (-1 : Int64), (0 : Int64), (0 : Int64), (0 : Int64), (0 : Int64), (0 : Int64)] := V216
  have V217 := V209.other W215 ne183
  have V218 := V210.other W215 ne184
  refine own_dup X213 at_212 (pc' := 213) rfl rfl ?_
  refine own_iconst X213 at_213 (pc' := 214) rfl (z := (4 : Int32)) rfl ?_
  refine own_ldc2 X213 (hw _ (List.mem_of_getElem? (i := 1) rfl)) at_214 (pc' := 217) rfl ?_
  refine own_lastore X213 V216 g181 (x := (-1 : Int64)) rfl 4 rfl (by decide) (by decide) at_217 (pc' := 218) rfl fun T219 h220 lc222 X221 W223 V224 => ?_
  replace V224 : own_W Z h220 b175 (9 : Int32) [(-1 : Int64), (-1 : Int64), (-1 : Int64), (-1 : Int64), (-1 : Int64), (0 : Int64), (0 : Int64), (0 : Int64), (0 : Int64)] := V224
  have V225 := V217.other W223 ne183
  have V226 := V218.other W223 ne184
  refine own_dup X221 at_218 (pc' := 219) rfl rfl ?_
  refine own_iconst X221 at_219 (pc' := 220) rfl (z := (5 : Int32)) rfl ?_
  refine own_ldc2 X221 (hw _ (List.mem_of_getElem? (i := 1) rfl)) at_220 (pc' := 223) rfl ?_
  refine own_lastore X221 V224 g181 (x := (-1 : Int64)) rfl 5 rfl (by decide) (by decide) at_223 (pc' := 224) rfl fun T227 h228 lc230 X229 W231 V232 => ?_
  replace V232 : own_W Z h228 b175 (9 : Int32) [(-1 : Int64), (-1 : Int64), (-1 : Int64), (-1 : Int64), (-1 : Int64), (-1 : Int64), (0 : Int64), (0 : Int64), (0 : Int64)] := V232
  have V233 := V225.other W231 ne183
  have V234 := V226.other W231 ne184
  refine own_dup X229 at_224 (pc' := 225) rfl rfl ?_
  refine own_bipush X229 at_225 (pc' := 227) rfl (z := (6 : Int32)) rfl ?_
  refine own_ldc2 X229 (hw _ (List.mem_of_getElem? (i := 1) rfl)) at_227 (pc' := 230) rfl ?_
  refine own_lastore X229 V232 g181 (x := (-1 : Int64)) rfl 6 rfl (by decide) (by decide) at_230 (pc' := 231) rfl fun T235 h236 lc238 X237 W239 V240 => ?_
  replace V240 : own_W Z h236 b175 (9 : Int32) [(-1 : Int64), (-1 : Int64), (-1 : Int64), (-1 : Int64), (-1 : Int64), (-1 : Int64), (-1 : Int64), (0 : Int64), (0 : Int64)] := V240
  have V241 := V233.other W239 ne183
  have V242 := V234.other W239 ne184
  refine own_dup X237 at_231 (pc' := 232) rfl rfl ?_
  refine own_bipush X237 at_232 (pc' := 234) rfl (z := (7 : Int32)) rfl ?_
  refine own_ldc2 X237 (hw _ (List.mem_of_getElem? (i := 1) rfl)) at_234 (pc' := 237) rfl ?_
  refine own_lastore X237 V240 g181 (x := (-1 : Int64)) rfl 7 rfl (by decide) (by decide) at_237 (pc' := 238) rfl fun T243 h244 lc246 X245 W247 V248 => ?_
  replace V248 : own_W Z h244 b175 (9 : Int32) [(-1 : Int64), (-1 : Int64), (-1 : Int64), (-1 : Int64), (-1 : Int64), (-1 : Int64), (-1 : Int64), (-1 : Int64), (0 : Int64)] := V248
  have V249 := V241.other W247 ne183
  have V250 := V242.other W247 ne184
  refine own_dup X245 at_238 (pc' := 239) rfl rfl ?_
  refine own_bipush X245 at_239 (pc' := 241) rfl (z := (8 : Int32)) rfl ?_
  refine own_ldc2 X245 (hw _ (List.mem_of_getElem? (i := 1) rfl)) at_241 (pc' := 244) rfl ?_
  refine own_lastore X245 V248 g181 (x := (-1 : Int64)) rfl 8 rfl (by decide) (by decide) at_244 (pc' := 245) rfl fun T251 h252 lc254 X253 W255 V256 => ?_
  replace V256 : own_W Z h252 b175 (9 : Int32) [(-1 : Int64), (-1 : Int64), (-1 : Int64), (-1 : Int64), (-1 : Int64), (-1 : Int64), (-1 : Int64), (-1 : Int64), (-1 : Int64)] := V256
  have V257 := V249.other W255 ne183
  have V258 := V250.other W255 ne184
  refine own_astore X253 at_245 (pc' := 247) rfl rfl (Ls' := #[.val (.long q1), .second, .val (.long q2), .second, .val (.long q3), .second, .val (.long q4), .second, .val (.long q5), .second, .val (.int p6), .val (.int (p6 &&& (3 : Int32))), .val (.ref b1), .val (.ref b81), .val (.ref b175), .unset, .unset, .unset]) rfl ?_
  refine own_bipush X253 at_247 (pc' := 249) rfl (z := (9 : Int32)) rfl ?_
  refine own_newW X253 (hw _ (List.mem_of_getElem? (i := 0) rfl)) (by decide) 9 (by decide) (by decide) (by decide) (by decide) at_249 (pc' := 251) rfl fun T260 h261 b259 X262 Ex263 hs264 g265 V266 => ?_
  have ne267 : b1 ≠ b259 := Nat.ne_of_lt (Nat.lt_of_lt_of_eq V257.lt hs264)
  have ne268 : b81 ≠ b259 := Nat.ne_of_lt (Nat.lt_of_lt_of_eq V258.lt hs264)
  have ne269 : b175 ≠ b259 := Nat.ne_of_lt (Nat.lt_of_lt_of_eq V256.lt hs264)
  have V270 := V257.ext Ex263
  have V271 := V258.ext Ex263
  have V272 := V256.ext Ex263
  replace V266 : own_W Z h261 b259 (9 : Int32) [(0 : Int64), (0 : Int64), (0 : Int64), (0 : Int64), (0 : Int64), (0 : Int64), (0 : Int64), (0 : Int64), (0 : Int64)] := V266
  refine own_dup X262 at_251 (pc' := 252) rfl rfl ?_
  refine own_iconst X262 at_252 (pc' := 253) rfl (z := (0 : Int32)) rfl ?_
  refine own_ldc2 X262 (hw _ (List.mem_of_getElem? (i := 1) rfl)) at_253 (pc' := 256) rfl ?_
  refine own_lastore X262 V266 g265 (x := (-1 : Int64)) rfl 0 rfl (by decide) (by decide) at_256 (pc' := 257) rfl fun T273 h274 lc276 X275 W277 V278 => ?_
  replace V278 : own_W Z h274 b259 (9 : Int32) [(-1 : Int64), (0 : Int64), (0 : Int64), (0 : Int64), (0 : Int64), (0 : Int64), (0 : Int64), (0 : Int64), (0 : Int64)] := V278
  have V279 := V270.other W277 ne267
  have V280 := V271.other W277 ne268
  have V281 := V272.other W277 ne269
  refine own_dup X275 at_257 (pc' := 258) rfl rfl ?_
  refine own_iconst X275 at_258 (pc' := 259) rfl (z := (1 : Int32)) rfl ?_
  refine own_ldc2 X275 (hw _ (List.mem_of_getElem? (i := 1) rfl)) at_259 (pc' := 262) rfl ?_
  refine own_lastore X275 V278 g265 (x := (-1 : Int64)) rfl 1 rfl (by decide) (by decide) at_262 (pc' := 263) rfl fun T282 h283 lc285 X284 W286 V287 => ?_
  replace V287 : own_W Z h283 b259 (9 : Int32) [(-1 : Int64), (-1 : Int64), (0 : Int64), (0 : Int64), (0 : Int64), (0 : Int64), (0 : Int64), (0 : Int64), (0 : Int64)] := V287
  have V288 := V279.other W286 ne267
  have V289 := V280.other W286 ne268
  have V290 := V281.other W286 ne269
  refine own_dup X284 at_263 (pc' := 264) rfl rfl ?_
  refine own_iconst X284 at_264 (pc' := 265) rfl (z := (2 : Int32)) rfl ?_
  refine own_ldc2 X284 (hw _ (List.mem_of_getElem? (i := 1) rfl)) at_265 (pc' := 268) rfl ?_
  refine own_lastore X284 V287 g265 (x := (-1 : Int64)) rfl 2 rfl (by decide) (by decide) at_268 (pc' := 269) rfl fun T291 h292 lc294 X293 W295 V296 => ?_
  replace V296 : own_W Z h292 b259 (9 : Int32) [(-1 : Int64), (-1 : Int64), (-1 : Int64), (0 : Int64), (0 : Int64), (0 : Int64), (0 : Int64), (0 : Int64), (0 : Int64)] := V296
  have V297 := V288.other W295 ne267
  have V298 := V289.other W295 ne268
  have V299 := V290.other W295 ne269
  refine own_dup X293 at_269 (pc' := 270) rfl rfl ?_
  refine own_iconst X293 at_270 (pc' := 271) rfl (z := (3 : Int32)) rfl ?_
  refine own_ldc2 X293 (hw _ (List.mem_of_getElem? (i := 1) rfl)) at_271 (pc' := 274) rfl ?_
  refine own_lastore X293 V296 g265 (x := (-1 : Int64)) rfl 3 rfl (by decide) (by decide) at_274 (pc' := 275) rfl fun T300 h301 lc303 X302 W304 V305 => ?_
  replace V305 : own_W Z h301 b259 (9 : Int32) [(-1 : Int64), (-1 : Int64), (-1 : Int64), (-1 : Int64), (0 : Int64), (0 : Int64), (0 : Int64), (0 : Int64), (0 : Int64)] := V305
  have V306 := V297.other W304 ne267
  have V307 := V298.other W304 ne268
  have V308 := V299.other W304 ne269
  refine own_dup X302 at_275 (pc' := 276) rfl rfl ?_
  refine own_iconst X302 at_276 (pc' := 277) rfl (z := (4 : Int32)) rfl ?_
  refine own_ldc2 X302 (hw _ (List.mem_of_getElem? (i := 1) rfl)) at_277 (pc' := 280) rfl ?_
  refine own_lastore X302 V305 g265 (x := (-1 : Int64)) rfl 4 rfl (by decide) (by decide) at_280 (pc' := 281) rfl fun T309 h310 lc312 X311 W313 V314 => ?_
  replace V314 : own_W Z h310 b259 (9 : Int32) [(-1 : Int64), (-1 : Int64), (-1 : Int64), (-1 : Int64), (-1 : Int64), (0 : Int64), (0 : Int64), (0 : Int64), (0 : Int64)] := V314
  have V315 := V306.other W313 ne267
  have V316 := V307.other W313 ne268
  have V317 := V308.other W313 ne269
  refine own_dup X311 at_281 (pc' := 282) rfl rfl ?_
  refine own_iconst X311 at_282 (pc' := 283) rfl (z := (5 : Int32)) rfl ?_
  refine own_ldc2 X311 (hw _ (List.mem_of_getElem? (i := 1) rfl)) at_283 (pc' := 286) rfl ?_
  refine own_lastore X311 V314 g265 (x := (-1 : Int64)) rfl 5 rfl (by decide) (by decide) at_286 (pc' := 287) rfl fun T318 h319 lc321 X320 W322 V323 => ?_
  replace V323 : own_W Z h319 b259 (9 : Int32) [(-1 : Int64), (-1 : Int64), (-1 : Int64), (-1 : Int64), (-1 : Int64), (-1 : Int64), (0 : Int64), (0 : Int64), (0 : Int64)] := V323
  have V324 := V315.other W322 ne267
  have V325 := V316.other W322 ne268
  have V326 := V317.other W322 ne269
  refine own_dup X320 at_287 (pc' := 288) rfl rfl ?_
  refine own_bipush X320 at_288 (pc' := 290) rfl (z := (6 : Int32)) rfl ?_
  refine own_ldc2 X320 (hw _ (List.mem_of_getElem? (i := 1) rfl)) at_290 (pc' := 293) rfl ?_
  refine own_lastore X320 V323 g265 (x := (-1 : Int64)) rfl 6 rfl (by decide) (by decide) at_293 (pc' := 294) rfl fun T327 h328 lc330 X329 W331 V332 => ?_
  replace V332 : own_W Z h328 b259 (9 : Int32) [(-1 : Int64), (-1 : Int64), (-1 : Int64), (-1 : Int64), (-1 : Int64), (-1 : Int64), (-1 : Int64), (0 : Int64), (0 : Int64)] := V332
  have V333 := V324.other W331 ne267
  have V334 := V325.other W331 ne268
  have V335 := V326.other W331 ne269
  refine own_dup X329 at_294 (pc' := 295) rfl rfl ?_
  refine own_bipush X329 at_295 (pc' := 297) rfl (z := (7 : Int32)) rfl ?_
  refine own_ldc2 X329 (hw _ (List.mem_of_getElem? (i := 1) rfl)) at_297 (pc' := 300) rfl ?_
  refine own_lastore X329 V332 g265 (x := (-1 : Int64)) rfl 7 rfl (by decide) (by decide) at_300 (pc' := 301) rfl fun T336 h337 lc339 X338 W340 V341 => ?_
  replace V341 : own_W Z h337 b259 (9 : Int32) [(-1 : Int64), (-1 : Int64), (-1 : Int64), (-1 : Int64), (-1 : Int64), (-1 : Int64), (-1 : Int64), (-1 : Int64), (0 : Int64)] := V341
  have V342 := V333.other W340 ne267
  have V343 := V334.other W340 ne268
  have V344 := V335.other W340 ne269
  refine own_dup X338 at_301 (pc' := 302) rfl rfl ?_
  refine own_bipush X338 at_302 (pc' := 304) rfl (z := (8 : Int32)) rfl ?_
  refine own_ldc2 X338 (hw _ (List.mem_of_getElem? (i := 1) rfl)) at_304 (pc' := 307) rfl ?_
  refine own_lastore X338 V341 g265 (x := (-1 : Int64)) rfl 8 rfl (by decide) (by decide) at_307 (pc' := 308) rfl fun T345 h346 lc348 X347 W349 V350 => ?_
  replace V350 : own_W Z h346 b259 (9 : Int32) [(-1 : Int64), (-1 : Int64), (-1 : Int64), (-1 : Int64), (-1 : Int64), (-1 : Int64), (-1 : Int64), (-1 : Int64), (-1 : Int64)] := V350
  have V351 := V342.other W349 ne267
  have V352 := V343.other W349 ne268
  have V353 := V344.other W349 ne269
  refine own_astore X347 at_308 (pc' := 310) rfl rfl (Ls' := #[.val (.long q1), .second, .val (.long q2), .second, .val (.long q3), .second, .val (.long q4), .second, .val (.long q5), .second, .val (.int p6), .val (.int (p6 &&& (3 : Int32))), .val (.ref b1), .val (.ref b81), .val (.ref b175), .val (.ref b259), .unset, .unset]) rfl ?_
  refine own_aload X347 at_310 (pc' := 312) rfl (v := (.ref b175)) rfl rfl ?_
  refine own_aload X347 at_312 (pc' := 314) rfl (v := (.ref b259)) rfl rfl ?_
  refine own_aload X347 at_314 (pc' := 316) rfl (v := (.ref b81)) rfl rfl ?_
  refine own_iload X347 at_316 (pc' := 318) rfl (v := (p6 &&& (3 : Int32))) rfl ?_
  refine own_callS X347 (argsL := [(.ref b175), (.ref b259), (.ref b81), (.int (p6 &&& (3 : Int32)))]) (S := []) (own_rm1 l Z a0 hw b175 (-1 : Int64) (-1 : Int64) (-1 : Int64) (-1 : Int64) (-1 : Int64) (-1 : Int64) (-1 : Int64) (-1 : Int64) (-1 : Int64) b259 (-1 : Int64) (-1 : Int64) (-1 : Int64) (-1 : Int64) (-1 : Int64) (-1 : Int64) (-1 : Int64) (-1 : Int64) (-1 : Int64) b81 [q1, q2, q3, q4, q5, (q1 ^^^ q2), (q3 - q4), (q5 ^^^ (-1 : Int64)), (q1 + q3), (q2 ^^^ q5), (q4 * (3 : Int64)), (q1 ^^^ (-1 : Int64))] (p6 &&& (3 : Int32)) h346 n0 X347.2.2.2.2.2.2.2.2.1 V353 V350 V352 ne269 ne184 ne268 g181 g265 (own_a0 p6) (own_a3 p6)) (hw _ (List.mem_of_getElem? (i := 3) rfl)) (hw _ (List.mem_of_getElem? (i := 4) rfl)) (hw _ (List.mem_of_getElem? (i := 5) rfl)) (hw _ (List.mem_of_getElem? (i := 6) rfl)) (by decide) (by decide) 0 (by decide) rfl own_pd0 rfl rfl (Nat.le_of_eq rfl) (by decide) (by decide) at_318 (pc' := 321) rfl fun T354 h355 lc356 r357 X358 Q359 => ?_
  obtain ⟨rfl, K360, V361, V362⟩ := Q359
  have V363 := V351.keep K360 (ninS ne183 (ninS ne267 nin0))
  have V364 := V352.keep K360 (ninS ne184 (ninS ne268 nin0))
  show own_E p e below _ (T354.setTop (mkF m 321 #[.val (.long q1), .second, .val (.long q2), .second, .val (.long q3), .second, .val (.long q4), .second, .val (.long q5), .second, .val (.int p6), .val (.int (p6 &&& (3 : Int32))), .val (.ref b1), .val (.ref b81), .val (.ref b175), .val (.ref b259), .unset, .unset] []))
  refine own_aload X358 at_321 (pc' := 323) rfl (v := (.ref b175)) rfl rfl ?_
  refine own_iconst X358 at_323 (pc' := 324) rfl (z := (0 : Int32)) rfl ?_
  refine own_laload X358 V361 (by decide) (by decide) (y := (own_v1_72 [q1, q2, q3, q4, q5, (q1 ^^^ q2), (q3 - q4), (q5 ^^^ (-1 : Int64)), (q1 + q3), (q2 ^^^ q5), (q4 * (3 : Int64)), (q1 ^^^ (-1 : Int64))] (p6 &&& (3 : Int32)))) rfl at_324 (pc' := 325) rfl ?_
  refine own_aload X358 at_325 (pc' := 327) rfl (v := (.ref b259)) rfl rfl ?_
  refine own_iconst X358 at_327 (pc' := 328) rfl (z := (0 : Int32)) rfl ?_
  refine own_laload X358 V362 (by decide) (by decide) (y := (own_v1_155 [q1, q2, q3, q4, q5, (q1 ^^^ q2), (q3 - q4), (q5 ^^^ (-1 : Int64)), (q1 + q3), (q2 ^^^ q5), (q4 * (3 : Int64)), (q1 ^^^ (-1 : Int64))] (p6 &&& (3 : Int32)))) rfl at_328 (pc' := 329) rfl ?_
  refine own_aload X358 at_329 (pc' := 331) rfl (v := (.ref b1)) rfl rfl ?_
  refine own_iload X358 at_331 (pc' := 333) rfl (v := (p6 &&& (3 : Int32))) rfl ?_
  refine own_laload X358 V363 (own_a0 p6) (own_at0 (own_a3 p6)) (y := (List.getD [q1, q2, q3, q4, q5, (q1 ^^^ q2), (q3 - q4), (q5 ^^^ (-1 : Int64)), (q1 + q3), (q2 ^^^ q5), (q4 * (3 : Int64)), (q1 ^^^ (-1 : Int64))] ((p6 &&& (3 : Int32)).toNatClampNeg) 0)) rfl at_333 (pc' := 334) rfl ?_
  refine own_callS X358 (argsL := [(.long (own_v1_72 [q1, q2, q3, q4, q5, (q1 ^^^ q2), (q3 - q4), (q5 ^^^ (-1 : Int64)), (q1 + q3), (q2 ^^^ q5), (q4 * (3 : Int64)), (q1 ^^^ (-1 : Int64))] (p6 &&& (3 : Int32)))), (.long (own_v1_155 [q1, q2, q3, q4, q5, (q1 ^^^ q2), (q3 - q4), (q5 ^^^ (-1 : Int64)), (q1 + q3), (q2 ^^^ q5), (q4 * (3 : Int64)), (q1 ^^^ (-1 : Int64))] (p6 &&& (3 : Int32)))), (.long (List.getD [q1, q2, q3, q4, q5, (q1 ^^^ q2), (q3 - q4), (q5 ^^^ (-1 : Int64)), (q1 + q3), (q2 ^^^ q5), (q4 * (3 : Int64)), (q1 ^^^ (-1 : Int64))] ((p6 &&& (3 : Int32)).toNatClampNeg) 0))]) (S := []) (own_rm2 l Z a0 hw (own_v1_72 [q1, q2, q3, q4, q5, (q1 ^^^ q2), (q3 - q4), (q5 ^^^ (-1 : Int64)), (q1 + q3), (q2 ^^^ q5), (q4 * (3 : Int64)), (q1 ^^^ (-1 : Int64))] (p6 &&& (3 : Int32))) (own_v1_155 [q1, q2, q3, q4, q5, (q1 ^^^ q2), (q3 - q4), (q5 ^^^ (-1 : Int64)), (q1 + q3), (q2 ^^^ q5), (q4 * (3 : Int64)), (q1 ^^^ (-1 : Int64))] (p6 &&& (3 : Int32))) (List.getD [q1, q2, q3, q4, q5, (q1 ^^^ q2), (q3 - q4), (q5 ^^^ (-1 : Int64)), (q1 + q3), (q2 ^^^ q5), (q4 * (3 : Int64)), (q1 ^^^ (-1 : Int64))] ((p6 &&& (3 : Int32)).toNatClampNeg) 0) h355 n0 X358.2.2.2.2.2.2.2.2.1 ) (hw _ (List.mem_of_getElem? (i := 8) rfl)) (hw _ (List.mem_of_getElem? (i := 9) rfl)) (hw _ (List.mem_of_getElem? (i := 10) rfl)) (hw _ (List.mem_of_getElem? (i := 11) rfl)) (by decide) (by decide) 0 (by decide) rfl own_pd1 rfl rfl (Nat.le_of_eq rfl) (by decide) (by decide) at_334 (pc' := 337) rfl fun T365 h366 lc367 r368 X369 Q370 => ?_
  obtain ⟨rfl, e371⟩ := Q370
  replace e371 := e371.symm
  subst e371
  show own_E p e below _ (T365.setTop (mkF m 337 #[.val (.long q1), .second, .val (.long q2), .second, .val (.long q3), .second, .val (.long q4), .second, .val (.long q5), .second, .val (.int p6), .val (.int (p6 &&& (3 : Int32))), .val (.ref b1), .val (.ref b81), .val (.ref b175), .val (.ref b259), .unset, .unset] [(.int (own_v0_334 q1 q2 q3 q4 q5 p6))]))
  have K447 : ∀ T448 lc450, own_A l Z "marketmint/P256FieldUnpackPinLaw" code maxLocals n0 p e room_1 s m #[(.long q1), (.long q2), (.long q3), (.long q4), (.long q5), (.int p6)] below meth c T448 h355 lc450 4 42 → own_E p e below (own_G room_1 s n0 (fun v h => v = some (.int (own_F0 q1 q2 q3 q4 q5 p6)))) (T448.setTop (mkF m 522 #[.val (.long q1), .second, .val (.long q2), .second, .val (.long q3), .second, .val (.long q4), .second, .val (.long q5), .second, .val (.int p6), .val (.int (p6 &&& (3 : Int32))), .val (.ref b1), .val (.ref b81), .val (.ref b175), .val (.ref b259), .unset, .unset] [(.int (own_j0_522 q1 q2 q3 q4 q5 p6))])) := by
    intro T448 lc450 X449
    refine own_istore X449 at_522 (pc' := 524) rfl (y := (own_j0_522 q1 q2 q3 q4 q5 p6)) rfl (Ls' := #[.val (.long q1), .second, .val (.long q2), .second, .val (.long q3), .second, .val (.long q4), .second, .val (.long q5), .second, .val (.int p6), .val (.int (p6 &&& (3 : Int32))), .val (.ref b1), .val (.ref b81), .val (.ref b175), .val (.ref b259), .val (.int (own_j0_522 q1 q2 q3 q4 q5 p6)), .unset]) rfl ?_
    refine own_aload X449 at_524 (pc' := 526) rfl (v := (.ref b81)) rfl rfl ?_
    refine own_iconst X449 at_526 (pc' := 527) rfl (z := (0 : Int32)) rfl ?_
    refine own_laload X449 V364 (by decide) (by decide) (y := q1) rfl at_527 (pc' := 528) rfl ?_
    refine own_aload X449 at_528 (pc' := 530) rfl (v := (.ref b1)) rfl rfl ?_
    refine own_iconst X449 at_530 (pc' := 531) rfl (z := (0 : Int32)) rfl ?_
    refine own_laload X449 V363 (by decide) (by decide) (y := q1) rfl at_531 (pc' := 532) rfl ?_
    have hk451 : q1 = q1 := rfl
    refine own_ljN X449 at_532 rfl at_533 (own_teqL hk451).2 (pc' := 536) rfl ?_
    refine own_aload X449 at_536 (pc' := 538) rfl (v := (.ref b81)) rfl rfl ?_
    refine own_iconst X449 at_538 (pc' := 539) rfl (z := (1 : Int32)) rfl ?_
    refine own_laload X449 V364 (by decide) (by decide) (y := q2) rfl at_539 (pc' := 540) rfl ?_
    refine own_aload X449 at_540 (pc' := 542) rfl (v := (.ref b1)) rfl rfl ?_
    refine own_iconst X449 at_542 (pc' := 543) rfl (z := (1 : Int32)) rfl ?_
    refine own_laload X449 V363 (by decide) (by decide) (y := q2) rfl at_543 (pc' := 544) rfl ?_
    have hk452 : q2 = q2 := rfl
    refine own_ljN X449 at_544 rfl at_545 (own_teqL hk452).2 (pc' := 548) rfl ?_
    refine own_aload X449 at_548 (pc' := 550) rfl (v := (.ref b81)) rfl rfl ?_
    refine own_iconst X449 at_550 (pc' := 551) rfl (z := (2 : Int32)) rfl ?_
    refine own_laload X449 V364 (by decide) (by decide) (y := q3) rfl at_551 (pc' := 552) rfl ?_
    refine own_aload X449 at_552 (pc' := 554) rfl (v := (.ref b1)) rfl rfl ?_
    refine own_iconst X449 at_554 (pc' := 555) rfl (z := (2 : Int32)) rfl ?_
    refine own_laload X449 V363 (by decide) (by decide) (y := q3) rfl at_555 (pc' := 556) rfl ?_
    have hk453 : q3 = q3 := rfl
    refine own_ljN X449 at_556 rfl at_557 (own_teqL hk453).2 (pc' := 560) rfl ?_
    refine own_aload X449 at_560 (pc' := 562) rfl (v := (.ref b81)) rfl rfl ?_
    refine own_iconst X449 at_562 (pc' := 563) rfl (z := (3 : Int32)) rfl ?_
    refine own_laload X449 V364 (by decide) (by decide) (y := q4) rfl at_563 (pc' := 564) rfl ?_
    refine own_aload X449 at_564 (pc' := 566) rfl (v := (.ref b1)) rfl rfl ?_
    refine own_iconst X449 at_566 (pc' := 567) rfl (z := (3 : Int32)) rfl ?_
    refine own_laload X449 V363 (by decide) (by decide) (y := q4) rfl at_567 (pc' := 568) rfl ?_
    have hk454 : q4 = q4 := rfl
    refine own_ljN X449 at_568 rfl at_569 (own_teqL hk454).2 (pc' := 572) rfl ?_
    refine own_aload X449 at_572 (pc' := 574) rfl (v := (.ref b81)) rfl rfl ?_
    refine own_iconst X449 at_574 (pc' := 575) rfl (z := (4 : Int32)) rfl ?_
    refine own_laload X449 V364 (by decide) (by decide) (y := q5) rfl at_575 (pc' := 576) rfl ?_
    refine own_aload X449 at_576 (pc' := 578) rfl (v := (.ref b1)) rfl rfl ?_
    refine own_iconst X449 at_578 (pc' := 579) rfl (z := (4 : Int32)) rfl ?_
    refine own_laload X449 V363 (by decide) (by decide) (y := q5) rfl at_579 (pc' := 580) rfl ?_
    have hk455 : q5 = q5 := rfl
    refine own_ljN X449 at_580 rfl at_581 (own_teqL hk455).2 (pc' := 584) rfl ?_
    refine own_aload X449 at_584 (pc' := 586) rfl (v := (.ref b81)) rfl rfl ?_
    refine own_iconst X449 at_586 (pc' := 587) rfl (z := (5 : Int32)) rfl ?_
    refine own_laload X449 V364 (by decide) (by decide) (y := (q1 ^^^ q2)) rfl at_587 (pc' := 588) rfl ?_
    refine own_aload X449 at_588 (pc' := 590) rfl (v := (.ref b1)) rfl rfl ?_
    refine own_iconst X449 at_590 (pc' := 591) rfl (z := (5 : Int32)) rfl ?_
    refine own_laload X449 V363 (by decide) (by decide) (y := (q1 ^^^ q2)) rfl at_591 (pc' := 592) rfl ?_
    have hk456 : (q1 ^^^ q2) = (q1 ^^^ q2) := rfl
    refine own_ljN X449 at_592 rfl at_593 (own_teqL hk456).2 (pc' := 596) rfl ?_
    refine own_aload X449 at_596 (pc' := 598) rfl (v := (.ref b81)) rfl rfl ?_
    refine own_bipush X449 at_598 (pc' := 600) rfl (z := (6 : Int32)) rfl ?_
    refine own_laload X449 V364 (by decide) (by decide) (y := (q3 - q4)) rfl at_600 (pc' := 601) rfl ?_
    refine own_aload X449 at_601 (pc' := 603) rfl (v := (.ref b1)) rfl rfl ?_
    refine own_bipush X449 at_603 (pc' := 605) rfl (z := (6 : Int32)) rfl ?_
    refine own_laload X449 V363 (by decide) (by decide) (y := (q3 - q4)) rfl at_605 (pc' := 606) rfl ?_
    have hk457 : (q3 - q4) = (q3 - q4) := rfl
    refine own_ljN X449 at_606 rfl at_607 (own_teqL hk457).2 (pc' := 610) rfl ?_
    refine own_aload X449 at_610 (pc' := 612) rfl (v := (.ref b81)) rfl rfl ?_
    refine own_bipush X449 at_612 (pc' := 614) rfl (z := (7 : Int32)) rfl ?_
    refine own_laload X449 V364 (by decide) (by decide) (y := (q5 ^^^ (-1 : Int64))) rfl at_614 (pc' := 615) rfl ?_
    refine own_aload X449 at_615 (pc' := 617) rfl (v := (.ref b1)) rfl rfl ?_
    refine own_bipush X449 at_617 (pc' := 619) rfl (z := (7 : Int32)) rfl ?_
    refine own_laload X449 V363 (by decide) (by decide) (y := (q5 ^^^ (-1 : Int64))) rfl at_619 (pc' := 620) rfl ?_
    have hk458 : (q5 ^^^ (-1 : Int64)) = (q5 ^^^ (-1 : Int64)) := rfl
    refine own_ljN X449 at_620 rfl at_621 (own_teqL hk458).2 (pc' := 624) rfl ?_
    refine own_aload X449 at_624 (pc' := 626) rfl (v := (.ref b81)) rfl rfl ?_
    refine own_bipush X449 at_626 (pc' := 628) rfl (z := (8 : Int32)) rfl ?_
    refine own_laload X449 V364 (by decide) (by decide) (y := (q1 + q3)) rfl at_628 (pc' := 629) rfl ?_
    refine own_aload X449 at_629 (pc' := 631) rfl (v := (.ref b1)) rfl rfl ?_
    refine own_bipush X449 at_631 (pc' := 633) rfl (z := (8 : Int32)) rfl ?_
    refine own_laload X449 V363 (by decide) (by decide) (y := (q1 + q3)) rfl at_633 (pc' := 634) rfl ?_
    have hk459 : (q1 + q3) = (q1 + q3) := rfl
    refine own_ljN X449 at_634 rfl at_635 (own_teqL hk459).2 (pc' := 638) rfl ?_
    refine own_aload X449 at_638 (pc' := 640) rfl (v := (.ref b81)) rfl rfl ?_
    refine own_bipush X449 at_640 (pc' := 642) rfl (z := (9 : Int32)) rfl ?_
    refine own_laload X449 V364 (by decide) (by decide) (y := (q2 ^^^ q5)) rfl at_642 (pc' := 643) rfl ?_
    refine own_aload X449 at_643 (pc' := 645) rfl (v := (.ref b1)) rfl rfl ?_
    refine own_bipush X449 at_645 (pc' := 647) rfl (z := (9 : Int32)) rfl ?_
    refine own_laload X449 V363 (by decide) (by decide) (y := (q2 ^^^ q5)) rfl at_647 (pc' := 648) rfl ?_
    have hk460 : (q2 ^^^ q5) = (q2 ^^^ q5) := rfl
    refine own_ljN X449 at_648 rfl at_649 (own_teqL hk460).2 (pc' := 652) rfl ?_
    refine own_aload X449 at_652 (pc' := 654) rfl (v := (.ref b81)) rfl rfl ?_
    refine own_bipush X449 at_654 (pc' := 656) rfl (z := (10 : Int32)) rfl ?_
    refine own_laload X449 V364 (by decide) (by decide) (y := (q4 * (3 : Int64))) rfl at_656 (pc' := 657) rfl ?_
    refine own_aload X449 at_657 (pc' := 659) rfl (v := (.ref b1)) rfl rfl ?_
    refine own_bipush X449 at_659 (pc' := 661) rfl (z := (10 : Int32)) rfl ?_
    refine own_laload X449 V363 (by decide) (by decide) (y := (q4 * (3 : Int64))) rfl at_661 (pc' := 662) rfl ?_
    have hk461 : (q4 * (3 : Int64)) = (q4 * (3 : Int64)) := rfl
    refine own_ljN X449 at_662 rfl at_663 (own_teqL hk461).2 (pc' := 666) rfl ?_
    refine own_aload X449 at_666 (pc' := 668) rfl (v := (.ref b81)) rfl rfl ?_
    refine own_bipush X449 at_668 (pc' := 670) rfl (z := (11 : Int32)) rfl ?_
    refine own_laload X449 V364 (by decide) (by decide) (y := (q1 ^^^ (-1 : Int64))) rfl at_670 (pc' := 671) rfl ?_
    refine own_aload X449 at_671 (pc' := 673) rfl (v := (.ref b1)) rfl rfl ?_
    refine own_bipush X449 at_673 (pc' := 675) rfl (z := (11 : Int32)) rfl ?_
    refine own_laload X449 V363 (by decide) (by decide) (y := (q1 ^^^ (-1 : Int64))) rfl at_675 (pc' := 676) rfl ?_
    have hk462 : (q1 ^^^ (-1 : Int64)) = (q1 ^^^ (-1 : Int64)) := rfl
    refine own_ljN X449 at_676 rfl at_677 (own_teqL hk462).2 (pc' := 680) rfl ?_
    refine own_iconst X449 at_680 (pc' := 681) rfl (z := (1 : Int32)) rfl ?_
    refine own_goto X449 at_681 (by decide) (pc' := 685) rfl ?_
    refine own_istore X449 at_685 (pc' := 687) rfl (y := (1 : Int32)) rfl (Ls' := #[.val (.long q1), .second, .val (.long q2), .second, .val (.long q3), .second, .val (.long q4), .second, .val (.long q5), .second, .val (.int p6), .val (.int (p6 &&& (3 : Int32))), .val (.ref b1), .val (.ref b81), .val (.ref b175), .val (.ref b259), .val (.int (own_j0_522 q1 q2 q3 q4 q5 p6)), .val (.int (1 : Int32))]) rfl ?_
    refine own_iload X449 at_687 (pc' := 689) rfl (v := (own_j0_522 q1 q2 q3 q4 q5 p6)) rfl ?_
    by_cases hc463 : (own_j0_522 q1 q2 q3 q4 q5 p6) = (0 : Int32)
    · refine own_ifY X449 at_689 (teq hc463).1 (by decide) (pc' := 701) rfl ?_
      refine own_iconst X449 at_701 (pc' := 702) rfl (z := (0 : Int32)) rfl ?_
      refine own_iret X449 (t := .boolean) (w := (0 : Int32)) hret (by simp) at_702 rfl (by decide) (by decide) ?_
      exact congrArg (fun t => some (Value.int t)) (show (0 : Int32) = own_F0 q1 q2 q3 q4 q5 p6 from (by rw [own_F0, if_pos hc463]))
    · refine own_ifN X449 at_689 (feq hc463).1 (pc' := 692) rfl ?_
      refine own_iload X449 at_692 (pc' := 694) rfl (v := (1 : Int32)) rfl ?_
      have hk464 : ¬ ((1 : Int32) = (0 : Int32)) := (by decide)
      refine own_ifN X449 at_694 (feq hk464).1 (pc' := 697) rfl ?_
      refine own_iconst X449 at_697 (pc' := 698) rfl (z := (1 : Int32)) rfl ?_
      refine own_goto X449 at_698 (by decide) (pc' := 702) rfl ?_
      refine own_iret X449 (t := .boolean) (w := (1 : Int32)) hret (by simp) at_702 rfl (by decide) (by decide) ?_
      exact congrArg (fun t => some (Value.int t)) (show (1 : Int32) = own_F0 q1 q2 q3 q4 q5 p6 from (by rw [own_F0, if_neg hc463]))
  by_cases hc372 : (own_v0_334 q1 q2 q3 q4 q5 p6) = (0 : Int32)
  · refine own_ifY X369 at_337 (teq hc372).1 (by decide) (pc' := 521) rfl ?_
    refine own_iconst X369 at_521 (pc' := 522) rfl (z := (0 : Int32)) rfl ?_
    have K447_ := K447 T365 _ X369
    have q465 : (own_j0_522 q1 q2 q3 q4 q5 p6) = (0 : Int32) := by rw [own_j0_522, if_pos hc372]
    rw [q465] at K447_
    exact K447_
  · refine own_ifN X369 at_337 (feq hc372).1 (pc' := 340) rfl ?_
    refine own_aload X369 at_340 (pc' := 342) rfl (v := (.ref b175)) rfl rfl ?_
    refine own_iconst X369 at_342 (pc' := 343) rfl (z := (1 : Int32)) rfl ?_
    refine own_laload X369 V361 (by decide) (by decide) (y := (own_v1_81 [q1, q2, q3, q4, q5, (q1 ^^^ q2), (q3 - q4), (q5 ^^^ (-1 : Int64)), (q1 + q3), (q2 ^^^ q5), (q4 * (3 : Int64)), (q1 ^^^ (-1 : Int64))] (p6 &&& (3 : Int32)))) rfl at_343 (pc' := 344) rfl ?_
    refine own_aload X369 at_344 (pc' := 346) rfl (v := (.ref b259)) rfl rfl ?_
    refine own_iconst X369 at_346 (pc' := 347) rfl (z := (1 : Int32)) rfl ?_
    refine own_laload X369 V362 (by decide) (by decide) (y := (own_v1_163 [q1, q2, q3, q4, q5, (q1 ^^^ q2), (q3 - q4), (q5 ^^^ (-1 : Int64)), (q1 + q3), (q2 ^^^ q5), (q4 * (3 : Int64)), (q1 ^^^ (-1 : Int64))] (p6 &&& (3 : Int32)))) rfl at_347 (pc' := 348) rfl ?_
    refine own_aload X369 at_348 (pc' := 350) rfl (v := (.ref b1)) rfl rfl ?_
    refine own_iload X369 at_350 (pc' := 352) rfl (v := (p6 &&& (3 : Int32))) rfl ?_
    refine own_iconst X369 at_352 (pc' := 353) rfl (z := (1 : Int32)) rfl ?_
    refine own_iadd X369 at_353 (pc' := 354) rfl (z := ((p6 &&& (3 : Int32)) + (1 : Int32))) rfl ?_
    refine own_laload X369 V363 (own_at (own_a0 p6) (own_a3 p6) (by decide) (by decide)).2.1 (own_at (own_a0 p6) (own_a3 p6) (by decide) (by decide)).2.2 (y := (List.getD [q1, q2, q3, q4, q5, (q1 ^^^ q2), (q3 - q4), (q5 ^^^ (-1 : Int64)), (q1 + q3), (q2 ^^^ q5), (q4 * (3 : Int64)), (q1 ^^^ (-1 : Int64))] (((p6 &&& (3 : Int32)) + (1 : Int32)).toNatClampNeg) 0)) rfl at_354 (pc' := 355) rfl ?_
    refine own_callS X369 (argsL := [(.long (own_v1_81 [q1, q2, q3, q4, q5, (q1 ^^^ q2), (q3 - q4), (q5 ^^^ (-1 : Int64)), (q1 + q3), (q2 ^^^ q5), (q4 * (3 : Int64)), (q1 ^^^ (-1 : Int64))] (p6 &&& (3 : Int32)))), (.long (own_v1_163 [q1, q2, q3, q4, q5, (q1 ^^^ q2), (q3 - q4), (q5 ^^^ (-1 : Int64)), (q1 + q3), (q2 ^^^ q5), (q4 * (3 : Int64)), (q1 ^^^ (-1 : Int64))] (p6 &&& (3 : Int32)))), (.long (List.getD [q1, q2, q3, q4, q5, (q1 ^^^ q2), (q3 - q4), (q5 ^^^ (-1 : Int64)), (q1 + q3), (q2 ^^^ q5), (q4 * (3 : Int64)), (q1 ^^^ (-1 : Int64))] (((p6 &&& (3 : Int32)) + (1 : Int32)).toNatClampNeg) 0))]) (S := []) (own_rm2 l Z a0 hw (own_v1_81 [q1, q2, q3, q4, q5, (q1 ^^^ q2), (q3 - q4), (q5 ^^^ (-1 : Int64)), (q1 + q3), (q2 ^^^ q5), (q4 * (3 : Int64)), (q1 ^^^ (-1 : Int64))] (p6 &&& (3 : Int32))) (own_v1_163 [q1, q2, q3, q4, q5, (q1 ^^^ q2), (q3 - q4), (q5 ^^^ (-1 : Int64)), (q1 + q3), (q2 ^^^ q5), (q4 * (3 : Int64)), (q1 ^^^ (-1 : Int64))] (p6 &&& (3 : Int32))) (List.getD [q1, q2, q3, q4, q5, (q1 ^^^ q2), (q3 - q4), (q5 ^^^ (-1 : Int64)), (q1 + q3), (q2 ^^^ q5), (q4 * (3 : Int64)), (q1 ^^^ (-1 : Int64))] (((p6 &&& (3 : Int32)) + (1 : Int32)).toNatClampNeg) 0) h355 n0 X369.2.2.2.2.2.2.2.2.1 ) (hw _ (List.mem_of_getElem? (i := 8) rfl)) (hw _ (List.mem_of_getElem? (i := 9) rfl)) (hw _ (List.mem_of_getElem? (i := 10) rfl)) (hw _ (List.mem_of_getElem? (i := 11) rfl)) (by decide) (by decide) 0 (by decide) rfl own_pd1 rfl rfl (Nat.le_of_eq rfl) (by decide) (by decide) at_355 (pc' := 358) rfl fun T374 h375 lc376 r377 X378 Q379 => ?_
    obtain ⟨rfl, e380⟩ := Q379
    replace e380 := e380.symm
    subst e380
    show own_E p e below _ (T374.setTop (mkF m 358 #[.val (.long q1), .second, .val (.long q2), .second, .val (.long q3), .second, .val (.long q4), .second, .val (.long q5), .second, .val (.int p6), .val (.int (p6 &&& (3 : Int32))), .val (.ref b1), .val (.ref b81), .val (.ref b175), .val (.ref b259), .unset, .unset] [(.int (own_v0_355 q1 q2 q3 q4 q5 p6))]))
    by_cases hc381 : (own_v0_355 q1 q2 q3 q4 q5 p6) = (0 : Int32)
    · refine own_ifY X378 at_358 (teq hc381).1 (by decide) (pc' := 521) rfl ?_
      refine own_iconst X378 at_521 (pc' := 522) rfl (z := (0 : Int32)) rfl ?_
      have K447_ := K447 T374 _ X378
      have q466 : (own_j0_522 q1 q2 q3 q4 q5 p6) = (0 : Int32) := by rw [own_j0_522, if_neg hc372, if_pos hc381]
      rw [q466] at K447_
      exact K447_
    · refine own_ifN X378 at_358 (feq hc381).1 (pc' := 361) rfl ?_
      refine own_aload X378 at_361 (pc' := 363) rfl (v := (.ref b175)) rfl rfl ?_
      refine own_iconst X378 at_363 (pc' := 364) rfl (z := (2 : Int32)) rfl ?_
      refine own_laload X378 V361 (by decide) (by decide) (y := (own_v1_90 [q1, q2, q3, q4, q5, (q1 ^^^ q2), (q3 - q4), (q5 ^^^ (-1 : Int64)), (q1 + q3), (q2 ^^^ q5), (q4 * (3 : Int64)), (q1 ^^^ (-1 : Int64))] (p6 &&& (3 : Int32)))) rfl at_364 (pc' := 365) rfl ?_
      refine own_aload X378 at_365 (pc' := 367) rfl (v := (.ref b259)) rfl rfl ?_
      refine own_iconst X378 at_367 (pc' := 368) rfl (z := (2 : Int32)) rfl ?_
      refine own_laload X378 V362 (by decide) (by decide) (y := (own_v1_171 [q1, q2, q3, q4, q5, (q1 ^^^ q2), (q3 - q4), (q5 ^^^ (-1 : Int64)), (q1 + q3), (q2 ^^^ q5), (q4 * (3 : Int64)), (q1 ^^^ (-1 : Int64))] (p6 &&& (3 : Int32)))) rfl at_368 (pc' := 369) rfl ?_
      refine own_aload X378 at_369 (pc' := 371) rfl (v := (.ref b1)) rfl rfl ?_
      refine own_iload X378 at_371 (pc' := 373) rfl (v := (p6 &&& (3 : Int32))) rfl ?_
      refine own_iconst X378 at_373 (pc' := 374) rfl (z := (2 : Int32)) rfl ?_
      refine own_iadd X378 at_374 (pc' := 375) rfl (z := ((p6 &&& (3 : Int32)) + (2 : Int32))) rfl ?_
      refine own_laload X378 V363 (own_at (own_a0 p6) (own_a3 p6) (by decide) (by decide)).2.1 (own_at (own_a0 p6) (own_a3 p6) (by decide) (by decide)).2.2 (y := (List.getD [q1, q2, q3, q4, q5, (q1 ^^^ q2), (q3 - q4), (q5 ^^^ (-1 : Int64)), (q1 + q3), (q2 ^^^ q5), (q4 * (3 : Int64)), (q1 ^^^ (-1 : Int64))] (((p6 &&& (3 : Int32)) + (2 : Int32)).toNatClampNeg) 0)) rfl at_375 (pc' := 376) rfl ?_
      refine own_callS X378 (argsL := [(.long (own_v1_90 [q1, q2, q3, q4, q5, (q1 ^^^ q2), (q3 - q4), (q5 ^^^ (-1 : Int64)), (q1 + q3), (q2 ^^^ q5), (q4 * (3 : Int64)), (q1 ^^^ (-1 : Int64))] (p6 &&& (3 : Int32)))), (.long (own_v1_171 [q1, q2, q3, q4, q5, (q1 ^^^ q2), (q3 - q4), (q5 ^^^ (-1 : Int64)), (q1 + q3), (q2 ^^^ q5), (q4 * (3 : Int64)), (q1 ^^^ (-1 : Int64))] (p6 &&& (3 : Int32)))), (.long (List.getD [q1, q2, q3, q4, q5, (q1 ^^^ q2), (q3 - q4), (q5 ^^^ (-1 : Int64)), (q1 + q3), (q2 ^^^ q5), (q4 * (3 : Int64)), (q1 ^^^ (-1 : Int64))] (((p6 &&& (3 : Int32)) + (2 : Int32)).toNatClampNeg) 0))]) (S := []) (own_rm2 l Z a0 hw (own_v1_90 [q1, q2, q3, q4, q5, (q1 ^^^ q2), (q3 - q4), (q5 ^^^ (-1 : Int64)), (q1 + q3), (q2 ^^^ q5), (q4 * (3 : Int64)), (q1 ^^^ (-1 : Int64))] (p6 &&& (3 : Int32))) (own_v1_171 [q1, q2, q3, q4, q5, (q1 ^^^ q2), (q3 - q4), (q5 ^^^ (-1 : Int64)), (q1 + q3), (q2 ^^^ q5), (q4 * (3 : Int64)), (q1 ^^^ (-1 : Int64))] (p6 &&& (3 : Int32))) (List.getD [q1, q2, q3, q4, q5, (q1 ^^^ q2), (q3 - q4), (q5 ^^^ (-1 : Int64)), (q1 + q3), (q2 ^^^ q5), (q4 * (3 : Int64)), (q1 ^^^ (-1 : Int64))] (((p6 &&& (3 : Int32)) + (2 : Int32)).toNatClampNeg) 0) h355 n0 X378.2.2.2.2.2.2.2.2.1 ) (hw _ (List.mem_of_getElem? (i := 8) rfl)) (hw _ (List.mem_of_getElem? (i := 9) rfl)) (hw _ (List.mem_of_getElem? (i := 10) rfl)) (hw _ (List.mem_of_getElem? (i := 11) rfl)) (by decide) (by decide) 0 (by decide) rfl own_pd1 rfl rfl (Nat.le_of_eq rfl) (by decide) (by decide) at_376 (pc' := 379) rfl fun T383 h384 lc385 r386 X387 Q388 => ?_
      obtain ⟨rfl, e389⟩ := Q388
      replace e389 := e389.symm
      subst e389
      show own_E p e below _ (T383.setTop (mkF m 379 #[.val (.long q1), .second, .val (.long q2), .second, .val (.long q3), .second, .val (.long q4), .second, .val (.long q5), .second, .val (.int p6), .val (.int (p6 &&& (3 : Int32))), .val (.ref b1), .val (.ref b81), .val (.ref b175), .val (.ref b259), .unset, .unset] [(.int (own_v0_376 q1 q2 q3 q4 q5 p6))]))
      by_cases hc390 : (own_v0_376 q1 q2 q3 q4 q5 p6) = (0 : Int32)
      · refine own_ifY X387 at_379 (teq hc390).1 (by decide) (pc' := 521) rfl ?_
        refine own_iconst X387 at_521 (pc' := 522) rfl (z := (0 : Int32)) rfl ?_
        have K447_ := K447 T383 _ X387
        have q467 : (own_j0_522 q1 q2 q3 q4 q5 p6) = (0 : Int32) := by rw [own_j0_522, if_neg hc372, if_neg hc381, if_pos hc390]
        rw [q467] at K447_
        exact K447_
      · refine own_ifN X387 at_379 (feq hc390).1 (pc' := 382) rfl ?_
        refine own_aload X387 at_382 (pc' := 384) rfl (v := (.ref b175)) rfl rfl ?_
        refine own_iconst X387 at_384 (pc' := 385) rfl (z := (3 : Int32)) rfl ?_
        refine own_laload X387 V361 (by decide) (by decide) (y := (own_v1_99 [q1, q2, q3, q4, q5, (q1 ^^^ q2), (q3 - q4), (q5 ^^^ (-1 : Int64)), (q1 + q3), (q2 ^^^ q5), (q4 * (3 : Int64)), (q1 ^^^ (-1 : Int64))] (p6 &&& (3 : Int32)))) rfl at_385 (pc' := 386) rfl ?_
        refine own_aload X387 at_386 (pc' := 388) rfl (v := (.ref b259)) rfl rfl ?_
        refine own_iconst X387 at_388 (pc' := 389) rfl (z := (3 : Int32)) rfl ?_
        refine own_laload X387 V362 (by decide) (by decide) (y := (own_v1_179 [q1, q2, q3, q4, q5, (q1 ^^^ q2), (q3 - q4), (q5 ^^^ (-1 : Int64)), (q1 + q3), (q2 ^^^ q5), (q4 * (3 : Int64)), (q1 ^^^ (-1 : Int64))] (p6 &&& (3 : Int32)))) rfl at_389 (pc' := 390) rfl ?_
        refine own_aload X387 at_390 (pc' := 392) rfl (v := (.ref b1)) rfl rfl ?_
        refine own_iload X387 at_392 (pc' := 394) rfl (v := (p6 &&& (3 : Int32))) rfl ?_
        refine own_iconst X387 at_394 (pc' := 395) rfl (z := (3 : Int32)) rfl ?_
        refine own_iadd X387 at_395 (pc' := 396) rfl (z := ((p6 &&& (3 : Int32)) + (3 : Int32))) rfl ?_
        refine own_laload X387 V363 (own_at (own_a0 p6) (own_a3 p6) (by decide) (by decide)).2.1 (own_at (own_a0 p6) (own_a3 p6) (by decide) (by decide)).2.2 (y := (List.getD [q1, q2, q3, q4, q5, (q1 ^^^ q2), (q3 - q4), (q5 ^^^ (-1 : Int64)), (q1 + q3), (q2 ^^^ q5), (q4 * (3 : Int64)), (q1 ^^^ (-1 : Int64))] (((p6 &&& (3 : Int32)) + (3 : Int32)).toNatClampNeg) 0)) rfl at_396 (pc' := 397) rfl ?_
        refine own_callS X387 (argsL := [(.long (own_v1_99 [q1, q2, q3, q4, q5, (q1 ^^^ q2), (q3 - q4), (q5 ^^^ (-1 : Int64)), (q1 + q3), (q2 ^^^ q5), (q4 * (3 : Int64)), (q1 ^^^ (-1 : Int64))] (p6 &&& (3 : Int32)))), (.long (own_v1_179 [q1, q2, q3, q4, q5, (q1 ^^^ q2), (q3 - q4), (q5 ^^^ (-1 : Int64)), (q1 + q3), (q2 ^^^ q5), (q4 * (3 : Int64)), (q1 ^^^ (-1 : Int64))] (p6 &&& (3 : Int32)))), (.long (List.getD [q1, q2, q3, q4, q5, (q1 ^^^ q2), (q3 - q4), (q5 ^^^ (-1 : Int64)), (q1 + q3), (q2 ^^^ q5), (q4 * (3 : Int64)), (q1 ^^^ (-1 : Int64))] (((p6 &&& (3 : Int32)) + (3 : Int32)).toNatClampNeg) 0))]) (S := []) (own_rm2 l Z a0 hw (own_v1_99 [q1, q2, q3, q4, q5, (q1 ^^^ q2), (q3 - q4), (q5 ^^^ (-1 : Int64)), (q1 + q3), (q2 ^^^ q5), (q4 * (3 : Int64)), (q1 ^^^ (-1 : Int64))] (p6 &&& (3 : Int32))) (own_v1_179 [q1, q2, q3, q4, q5, (q1 ^^^ q2), (q3 - q4), (q5 ^^^ (-1 : Int64)), (q1 + q3), (q2 ^^^ q5), (q4 * (3 : Int64)), (q1 ^^^ (-1 : Int64))] (p6 &&& (3 : Int32))) (List.getD [q1, q2, q3, q4, q5, (q1 ^^^ q2), (q3 - q4), (q5 ^^^ (-1 : Int64)), (q1 + q3), (q2 ^^^ q5), (q4 * (3 : Int64)), (q1 ^^^ (-1 : Int64))] (((p6 &&& (3 : Int32)) + (3 : Int32)).toNatClampNeg) 0) h355 n0 X387.2.2.2.2.2.2.2.2.1 ) (hw _ (List.mem_of_getElem? (i := 8) rfl)) (hw _ (List.mem_of_getElem? (i := 9) rfl)) (hw _ (List.mem_of_getElem? (i := 10) rfl)) (hw _ (List.mem_of_getElem? (i := 11) rfl)) (by decide) (by decide) 0 (by decide) rfl own_pd1 rfl rfl (Nat.le_of_eq rfl) (by decide) (by decide) at_397 (pc' := 400) rfl fun T392 h393 lc394 r395 X396 Q397 => ?_
        obtain ⟨rfl, e398⟩ := Q397
        replace e398 := e398.symm
        subst e398
        show own_E p e below _ (T392.setTop (mkF m 400 #[.val (.long q1), .second, .val (.long q2), .second, .val (.long q3), .second, .val (.long q4), .second, .val (.long q5), .second, .val (.int p6), .val (.int (p6 &&& (3 : Int32))), .val (.ref b1), .val (.ref b81), .val (.ref b175), .val (.ref b259), .unset, .unset] [(.int (own_v0_397 q1 q2 q3 q4 q5 p6))]))
        by_cases hc399 : (own_v0_397 q1 q2 q3 q4 q5 p6) = (0 : Int32)
        · refine own_ifY X396 at_400 (teq hc399).1 (by decide) (pc' := 521) rfl ?_
          refine own_iconst X396 at_521 (pc' := 522) rfl (z := (0 : Int32)) rfl ?_
          have K447_ := K447 T392 _ X396
          have q468 : (own_j0_522 q1 q2 q3 q4 q5 p6) = (0 : Int32) := by rw [own_j0_522, if_neg hc372, if_neg hc381, if_neg hc390, if_pos hc399]
          rw [q468] at K447_
          exact K447_
        · refine own_ifN X396 at_400 (feq hc399).1 (pc' := 403) rfl ?_
          refine own_aload X396 at_403 (pc' := 405) rfl (v := (.ref b175)) rfl rfl ?_
          refine own_iconst X396 at_405 (pc' := 406) rfl (z := (4 : Int32)) rfl ?_
          refine own_laload X396 V361 (by decide) (by decide) (y := (own_v1_108 [q1, q2, q3, q4, q5, (q1 ^^^ q2), (q3 - q4), (q5 ^^^ (-1 : Int64)), (q1 + q3), (q2 ^^^ q5), (q4 * (3 : Int64)), (q1 ^^^ (-1 : Int64))] (p6 &&& (3 : Int32)))) rfl at_406 (pc' := 407) rfl ?_
          refine own_aload X396 at_407 (pc' := 409) rfl (v := (.ref b259)) rfl rfl ?_
          refine own_iconst X396 at_409 (pc' := 410) rfl (z := (4 : Int32)) rfl ?_
          refine own_laload X396 V362 (by decide) (by decide) (y := (own_v1_187 [q1, q2, q3, q4, q5, (q1 ^^^ q2), (q3 - q4), (q5 ^^^ (-1 : Int64)), (q1 + q3), (q2 ^^^ q5), (q4 * (3 : Int64)), (q1 ^^^ (-1 : Int64))] (p6 &&& (3 : Int32)))) rfl at_410 (pc' := 411) rfl ?_
          refine own_aload X396 at_411 (pc' := 413) rfl (v := (.ref b1)) rfl rfl ?_
          refine own_iload X396 at_413 (pc' := 415) rfl (v := (p6 &&& (3 : Int32))) rfl ?_
          refine own_iconst X396 at_415 (pc' := 416) rfl (z := (4 : Int32)) rfl ?_
          refine own_iadd X396 at_416 (pc' := 417) rfl (z := ((p6 &&& (3 : Int32)) + (4 : Int32))) rfl ?_
          refine own_laload X396 V363 (own_at (own_a0 p6) (own_a3 p6) (by decide) (by decide)).2.1 (own_at (own_a0 p6) (own_a3 p6) (by decide) (by decide)).2.2 (y := (List.getD [q1, q2, q3, q4, q5, (q1 ^^^ q2), (q3 - q4), (q5 ^^^ (-1 : Int64)), (q1 + q3), (q2 ^^^ q5), (q4 * (3 : Int64)), (q1 ^^^ (-1 : Int64))] (((p6 &&& (3 : Int32)) + (4 : Int32)).toNatClampNeg) 0)) rfl at_417 (pc' := 418) rfl ?_
          refine own_callS X396 (argsL := [(.long (own_v1_108 [q1, q2, q3, q4, q5, (q1 ^^^ q2), (q3 - q4), (q5 ^^^ (-1 : Int64)), (q1 + q3), (q2 ^^^ q5), (q4 * (3 : Int64)), (q1 ^^^ (-1 : Int64))] (p6 &&& (3 : Int32)))), (.long (own_v1_187 [q1, q2, q3, q4, q5, (q1 ^^^ q2), (q3 - q4), (q5 ^^^ (-1 : Int64)), (q1 + q3), (q2 ^^^ q5), (q4 * (3 : Int64)), (q1 ^^^ (-1 : Int64))] (p6 &&& (3 : Int32)))), (.long (List.getD [q1, q2, q3, q4, q5, (q1 ^^^ q2), (q3 - q4), (q5 ^^^ (-1 : Int64)), (q1 + q3), (q2 ^^^ q5), (q4 * (3 : Int64)), (q1 ^^^ (-1 : Int64))] (((p6 &&& (3 : Int32)) + (4 : Int32)).toNatClampNeg) 0))]) (S := []) (own_rm2 l Z a0 hw (own_v1_108 [q1, q2, q3, q4, q5, (q1 ^^^ q2), (q3 - q4), (q5 ^^^ (-1 : Int64)), (q1 + q3), (q2 ^^^ q5), (q4 * (3 : Int64)), (q1 ^^^ (-1 : Int64))] (p6 &&& (3 : Int32))) (own_v1_187 [q1, q2, q3, q4, q5, (q1 ^^^ q2), (q3 - q4), (q5 ^^^ (-1 : Int64)), (q1 + q3), (q2 ^^^ q5), (q4 * (3 : Int64)), (q1 ^^^ (-1 : Int64))] (p6 &&& (3 : Int32))) (List.getD [q1, q2, q3, q4, q5, (q1 ^^^ q2), (q3 - q4), (q5 ^^^ (-1 : Int64)), (q1 + q3), (q2 ^^^ q5), (q4 * (3 : Int64)), (q1 ^^^ (-1 : Int64))] (((p6 &&& (3 : Int32)) + (4 : Int32)).toNatClampNeg) 0) h355 n0 X396.2.2.2.2.2.2.2.2.1 ) (hw _ (List.mem_of_getElem? (i := 8) rfl)) (hw _ (List.mem_of_getElem? (i := 9) rfl)) (hw _ (List.mem_of_getElem? (i := 10) rfl)) (hw _ (List.mem_of_getElem? (i := 11) rfl)) (by decide) (by decide) 0 (by decide) rfl own_pd1 rfl rfl (Nat.le_of_eq rfl) (by decide) (by decide) at_418 (pc' := 421) rfl fun T401 h402 lc403 r404 X405 Q406 => ?_
          obtain ⟨rfl, e407⟩ := Q406
          replace e407 := e407.symm
          subst e407
          show own_E p e below _ (T401.setTop (mkF m 421 #[.val (.long q1), .second, .val (.long q2), .second, .val (.long q3), .second, .val (.long q4), .second, .val (.long q5), .second, .val (.int p6), .val (.int (p6 &&& (3 : Int32))), .val (.ref b1), .val (.ref b81), .val (.ref b175), .val (.ref b259), .unset, .unset] [(.int (own_v0_418 q1 q2 q3 q4 q5 p6))]))
          by_cases hc408 : (own_v0_418 q1 q2 q3 q4 q5 p6) = (0 : Int32)
          · refine own_ifY X405 at_421 (teq hc408).1 (by decide) (pc' := 521) rfl ?_
            refine own_iconst X405 at_521 (pc' := 522) rfl (z := (0 : Int32)) rfl ?_
            have K447_ := K447 T401 _ X405
            have q469 : (own_j0_522 q1 q2 q3 q4 q5 p6) = (0 : Int32) := by rw [own_j0_522, if_neg hc372, if_neg hc381, if_neg hc390, if_neg hc399, if_pos hc408]
            rw [q469] at K447_
            exact K447_
          · refine own_ifN X405 at_421 (feq hc408).1 (pc' := 424) rfl ?_
            refine own_aload X405 at_424 (pc' := 426) rfl (v := (.ref b175)) rfl rfl ?_
            refine own_iconst X405 at_426 (pc' := 427) rfl (z := (5 : Int32)) rfl ?_
            refine own_laload X405 V361 (by decide) (by decide) (y := (own_v1_117 [q1, q2, q3, q4, q5, (q1 ^^^ q2), (q3 - q4), (q5 ^^^ (-1 : Int64)), (q1 + q3), (q2 ^^^ q5), (q4 * (3 : Int64)), (q1 ^^^ (-1 : Int64))] (p6 &&& (3 : Int32)))) rfl at_427 (pc' := 428) rfl ?_
            refine own_aload X405 at_428 (pc' := 430) rfl (v := (.ref b259)) rfl rfl ?_
            refine own_iconst X405 at_430 (pc' := 431) rfl (z := (5 : Int32)) rfl ?_
            refine own_laload X405 V362 (by decide) (by decide) (y := (own_v1_195 [q1, q2, q3, q4, q5, (q1 ^^^ q2), (q3 - q4), (q5 ^^^ (-1 : Int64)), (q1 + q3), (q2 ^^^ q5), (q4 * (3 : Int64)), (q1 ^^^ (-1 : Int64))] (p6 &&& (3 : Int32)))) rfl at_431 (pc' := 432) rfl ?_
            refine own_aload X405 at_432 (pc' := 434) rfl (v := (.ref b1)) rfl rfl ?_
            refine own_iload X405 at_434 (pc' := 436) rfl (v := (p6 &&& (3 : Int32))) rfl ?_
            refine own_iconst X405 at_436 (pc' := 437) rfl (z := (5 : Int32)) rfl ?_
            refine own_iadd X405 at_437 (pc' := 438) rfl (z := ((p6 &&& (3 : Int32)) + (5 : Int32))) rfl ?_
            refine own_laload X405 V363 (own_at (own_a0 p6) (own_a3 p6) (by decide) (by decide)).2.1 (own_at (own_a0 p6) (own_a3 p6) (by decide) (by decide)).2.2 (y := (List.getD [q1, q2, q3, q4, q5, (q1 ^^^ q2), (q3 - q4), (q5 ^^^ (-1 : Int64)), (q1 + q3), (q2 ^^^ q5), (q4 * (3 : Int64)), (q1 ^^^ (-1 : Int64))] (((p6 &&& (3 : Int32)) + (5 : Int32)).toNatClampNeg) 0)) rfl at_438 (pc' := 439) rfl ?_
            refine own_callS X405 (argsL := [(.long (own_v1_117 [q1, q2, q3, q4, q5, (q1 ^^^ q2), (q3 - q4), (q5 ^^^ (-1 : Int64)), (q1 + q3), (q2 ^^^ q5), (q4 * (3 : Int64)), (q1 ^^^ (-1 : Int64))] (p6 &&& (3 : Int32)))), (.long (own_v1_195 [q1, q2, q3, q4, q5, (q1 ^^^ q2), (q3 - q4), (q5 ^^^ (-1 : Int64)), (q1 + q3), (q2 ^^^ q5), (q4 * (3 : Int64)), (q1 ^^^ (-1 : Int64))] (p6 &&& (3 : Int32)))), (.long (List.getD [q1, q2, q3, q4, q5, (q1 ^^^ q2), (q3 - q4), (q5 ^^^ (-1 : Int64)), (q1 + q3), (q2 ^^^ q5), (q4 * (3 : Int64)), (q1 ^^^ (-1 : Int64))] (((p6 &&& (3 : Int32)) + (5 : Int32)).toNatClampNeg) 0))]) (S := []) (own_rm2 l Z a0 hw (own_v1_117 [q1, q2, q3, q4, q5, (q1 ^^^ q2), (q3 - q4), (q5 ^^^ (-1 : Int64)), (q1 + q3), (q2 ^^^ q5), (q4 * (3 : Int64)), (q1 ^^^ (-1 : Int64))] (p6 &&& (3 : Int32))) (own_v1_195 [q1, q2, q3, q4, q5, (q1 ^^^ q2), (q3 - q4), (q5 ^^^ (-1 : Int64)), (q1 + q3), (q2 ^^^ q5), (q4 * (3 : Int64)), (q1 ^^^ (-1 : Int64))] (p6 &&& (3 : Int32))) (List.getD [q1, q2, q3, q4, q5, (q1 ^^^ q2), (q3 - q4), (q5 ^^^ (-1 : Int64)), (q1 + q3), (q2 ^^^ q5), (q4 * (3 : Int64)), (q1 ^^^ (-1 : Int64))] (((p6 &&& (3 : Int32)) + (5 : Int32)).toNatClampNeg) 0) h355 n0 X405.2.2.2.2.2.2.2.2.1 ) (hw _ (List.mem_of_getElem? (i := 8) rfl)) (hw _ (List.mem_of_getElem? (i := 9) rfl)) (hw _ (List.mem_of_getElem? (i := 10) rfl)) (hw _ (List.mem_of_getElem? (i := 11) rfl)) (by decide) (by decide) 0 (by decide) rfl own_pd1 rfl rfl (Nat.le_of_eq rfl) (by decide) (by decide) at_439 (pc' := 442) rfl fun T410 h411 lc412 r413 X414 Q415 => ?_
            obtain ⟨rfl, e416⟩ := Q415
            replace e416 := e416.symm
            subst e416
            show own_E p e below _ (T410.setTop (mkF m 442 #[.val (.long q1), .second, .val (.long q2), .second, .val (.long q3), .second, .val (.long q4), .second, .val (.long q5), .second, .val (.int p6), .val (.int (p6 &&& (3 : Int32))), .val (.ref b1), .val (.ref b81), .val (.ref b175), .val (.ref b259), .unset, .unset] [(.int (own_v0_439 q1 q2 q3 q4 q5 p6))]))
            by_cases hc417 : (own_v0_439 q1 q2 q3 q4 q5 p6) = (0 : Int32)
            · refine own_ifY X414 at_442 (teq hc417).1 (by decide) (pc' := 521) rfl ?_
              refine own_iconst X414 at_521 (pc' := 522) rfl (z := (0 : Int32)) rfl ?_
              have K447_ := K447 T410 _ X414
              have q470 : (own_j0_522 q1 q2 q3 q4 q5 p6) = (0 : Int32) := by rw [own_j0_522, if_neg hc372, if_neg hc381, if_neg hc390, if_neg hc399, if_neg hc408, if_pos hc417]
              rw [q470] at K447_
              exact K447_
            · refine own_ifN X414 at_442 (feq hc417).1 (pc' := 445) rfl ?_
              refine own_aload X414 at_445 (pc' := 447) rfl (v := (.ref b175)) rfl rfl ?_
              refine own_bipush X414 at_447 (pc' := 449) rfl (z := (6 : Int32)) rfl ?_
              refine own_laload X414 V361 (by decide) (by decide) (y := (own_v1_127 [q1, q2, q3, q4, q5, (q1 ^^^ q2), (q3 - q4), (q5 ^^^ (-1 : Int64)), (q1 + q3), (q2 ^^^ q5), (q4 * (3 : Int64)), (q1 ^^^ (-1 : Int64))] (p6 &&& (3 : Int32)))) rfl at_449 (pc' := 450) rfl ?_
              refine own_aload X414 at_450 (pc' := 452) rfl (v := (.ref b259)) rfl rfl ?_
              refine own_bipush X414 at_452 (pc' := 454) rfl (z := (6 : Int32)) rfl ?_
              refine own_laload X414 V362 (by decide) (by decide) (y := (own_v1_204 [q1, q2, q3, q4, q5, (q1 ^^^ q2), (q3 - q4), (q5 ^^^ (-1 : Int64)), (q1 + q3), (q2 ^^^ q5), (q4 * (3 : Int64)), (q1 ^^^ (-1 : Int64))] (p6 &&& (3 : Int32)))) rfl at_454 (pc' := 455) rfl ?_
              refine own_aload X414 at_455 (pc' := 457) rfl (v := (.ref b1)) rfl rfl ?_
              refine own_iload X414 at_457 (pc' := 459) rfl (v := (p6 &&& (3 : Int32))) rfl ?_
              refine own_bipush X414 at_459 (pc' := 461) rfl (z := (6 : Int32)) rfl ?_
              refine own_iadd X414 at_461 (pc' := 462) rfl (z := ((p6 &&& (3 : Int32)) + (6 : Int32))) rfl ?_
              refine own_laload X414 V363 (own_at (own_a0 p6) (own_a3 p6) (by decide) (by decide)).2.1 (own_at (own_a0 p6) (own_a3 p6) (by decide) (by decide)).2.2 (y := (List.getD [q1, q2, q3, q4, q5, (q1 ^^^ q2), (q3 - q4), (q5 ^^^ (-1 : Int64)), (q1 + q3), (q2 ^^^ q5), (q4 * (3 : Int64)), (q1 ^^^ (-1 : Int64))] (((p6 &&& (3 : Int32)) + (6 : Int32)).toNatClampNeg) 0)) rfl at_462 (pc' := 463) rfl ?_
              refine own_callS X414 (argsL := [(.long (own_v1_127 [q1, q2, q3, q4, q5, (q1 ^^^ q2), (q3 - q4), (q5 ^^^ (-1 : Int64)), (q1 + q3), (q2 ^^^ q5), (q4 * (3 : Int64)), (q1 ^^^ (-1 : Int64))] (p6 &&& (3 : Int32)))), (.long (own_v1_204 [q1, q2, q3, q4, q5, (q1 ^^^ q2), (q3 - q4), (q5 ^^^ (-1 : Int64)), (q1 + q3), (q2 ^^^ q5), (q4 * (3 : Int64)), (q1 ^^^ (-1 : Int64))] (p6 &&& (3 : Int32)))), (.long (List.getD [q1, q2, q3, q4, q5, (q1 ^^^ q2), (q3 - q4), (q5 ^^^ (-1 : Int64)), (q1 + q3), (q2 ^^^ q5), (q4 * (3 : Int64)), (q1 ^^^ (-1 : Int64))] (((p6 &&& (3 : Int32)) + (6 : Int32)).toNatClampNeg) 0))]) (S := []) (own_rm2 l Z a0 hw (own_v1_127 [q1, q2, q3, q4, q5, (q1 ^^^ q2), (q3 - q4), (q5 ^^^ (-1 : Int64)), (q1 + q3), (q2 ^^^ q5), (q4 * (3 : Int64)), (q1 ^^^ (-1 : Int64))] (p6 &&& (3 : Int32))) (own_v1_204 [q1, q2, q3, q4, q5, (q1 ^^^ q2), (q3 - q4), (q5 ^^^ (-1 : Int64)), (q1 + q3), (q2 ^^^ q5), (q4 * (3 : Int64)), (q1 ^^^ (-1 : Int64))] (p6 &&& (3 : Int32))) (List.getD [q1, q2, q3, q4, q5, (q1 ^^^ q2), (q3 - q4), (q5 ^^^ (-1 : Int64)), (q1 + q3), (q2 ^^^ q5), (q4 * (3 : Int64)), (q1 ^^^ (-1 : Int64))] (((p6 &&& (3 : Int32)) + (6 : Int32)).toNatClampNeg) 0) h355 n0 X414.2.2.2.2.2.2.2.2.1 ) (hw _ (List.mem_of_getElem? (i := 8) rfl)) (hw _ (List.mem_of_getElem? (i := 9) rfl)) (hw _ (List.mem_of_getElem? (i := 10) rfl)) (hw _ (List.mem_of_getElem? (i := 11) rfl)) (by decide) (by decide) 0 (by decide) rfl own_pd1 rfl rfl (Nat.le_of_eq rfl) (by decide) (by decide) at_463 (pc' := 466) rfl fun T419 h420 lc421 r422 X423 Q424 => ?_
              obtain ⟨rfl, e425⟩ := Q424
              replace e425 := e425.symm
              subst e425
              show own_E p e below _ (T419.setTop (mkF m 466 #[.val (.long q1), .second, .val (.long q2), .second, .val (.long q3), .second, .val (.long q4), .second, .val (.long q5), .second, .val (.int p6), .val (.int (p6 &&& (3 : Int32))), .val (.ref b1), .val (.ref b81), .val (.ref b175), .val (.ref b259), .unset, .unset] [(.int (own_v0_463 q1 q2 q3 q4 q5 p6))]))
              by_cases hc426 : (own_v0_463 q1 q2 q3 q4 q5 p6) = (0 : Int32)
              · refine own_ifY X423 at_466 (teq hc426).1 (by decide) (pc' := 521) rfl ?_
                refine own_iconst X423 at_521 (pc' := 522) rfl (z := (0 : Int32)) rfl ?_
                have K447_ := K447 T419 _ X423
                have q471 : (own_j0_522 q1 q2 q3 q4 q5 p6) = (0 : Int32) := by rw [own_j0_522, if_neg hc372, if_neg hc381, if_neg hc390, if_neg hc399, if_neg hc408, if_neg hc417, if_pos hc426]
                rw [q471] at K447_
                exact K447_
              · refine own_ifN X423 at_466 (feq hc426).1 (pc' := 469) rfl ?_
                refine own_aload X423 at_469 (pc' := 471) rfl (v := (.ref b175)) rfl rfl ?_
                refine own_bipush X423 at_471 (pc' := 473) rfl (z := (7 : Int32)) rfl ?_
                refine own_laload X423 V361 (by decide) (by decide) (y := (own_v1_137 [q1, q2, q3, q4, q5, (q1 ^^^ q2), (q3 - q4), (q5 ^^^ (-1 : Int64)), (q1 + q3), (q2 ^^^ q5), (q4 * (3 : Int64)), (q1 ^^^ (-1 : Int64))] (p6 &&& (3 : Int32)))) rfl at_473 (pc' := 474) rfl ?_
                refine own_aload X423 at_474 (pc' := 476) rfl (v := (.ref b259)) rfl rfl ?_
                refine own_bipush X423 at_476 (pc' := 478) rfl (z := (7 : Int32)) rfl ?_
                refine own_laload X423 V362 (by decide) (by decide) (y := (own_v1_213 [q1, q2, q3, q4, q5, (q1 ^^^ q2), (q3 - q4), (q5 ^^^ (-1 : Int64)), (q1 + q3), (q2 ^^^ q5), (q4 * (3 : Int64)), (q1 ^^^ (-1 : Int64))] (p6 &&& (3 : Int32)))) rfl at_478 (pc' := 479) rfl ?_
                refine own_aload X423 at_479 (pc' := 481) rfl (v := (.ref b1)) rfl rfl ?_
                refine own_iload X423 at_481 (pc' := 483) rfl (v := (p6 &&& (3 : Int32))) rfl ?_
                refine own_bipush X423 at_483 (pc' := 485) rfl (z := (7 : Int32)) rfl ?_
                refine own_iadd X423 at_485 (pc' := 486) rfl (z := ((p6 &&& (3 : Int32)) + (7 : Int32))) rfl ?_
                refine own_laload X423 V363 (own_at (own_a0 p6) (own_a3 p6) (by decide) (by decide)).2.1 (own_at (own_a0 p6) (own_a3 p6) (by decide) (by decide)).2.2 (y := (List.getD [q1, q2, q3, q4, q5, (q1 ^^^ q2), (q3 - q4), (q5 ^^^ (-1 : Int64)), (q1 + q3), (q2 ^^^ q5), (q4 * (3 : Int64)), (q1 ^^^ (-1 : Int64))] (((p6 &&& (3 : Int32)) + (7 : Int32)).toNatClampNeg) 0)) rfl at_486 (pc' := 487) rfl ?_
                refine own_callS X423 (argsL := [(.long (own_v1_137 [q1, q2, q3, q4, q5, (q1 ^^^ q2), (q3 - q4), (q5 ^^^ (-1 : Int64)), (q1 + q3), (q2 ^^^ q5), (q4 * (3 : Int64)), (q1 ^^^ (-1 : Int64))] (p6 &&& (3 : Int32)))), (.long (own_v1_213 [q1, q2, q3, q4, q5, (q1 ^^^ q2), (q3 - q4), (q5 ^^^ (-1 : Int64)), (q1 + q3), (q2 ^^^ q5), (q4 * (3 : Int64)), (q1 ^^^ (-1 : Int64))] (p6 &&& (3 : Int32)))), (.long (List.getD [q1, q2, q3, q4, q5, (q1 ^^^ q2), (q3 - q4), (q5 ^^^ (-1 : Int64)), (q1 + q3), (q2 ^^^ q5), (q4 * (3 : Int64)), (q1 ^^^ (-1 : Int64))] (((p6 &&& (3 : Int32)) + (7 : Int32)).toNatClampNeg) 0))]) (S := []) (own_rm2 l Z a0 hw (own_v1_137 [q1, q2, q3, q4, q5, (q1 ^^^ q2), (q3 - q4), (q5 ^^^ (-1 : Int64)), (q1 + q3), (q2 ^^^ q5), (q4 * (3 : Int64)), (q1 ^^^ (-1 : Int64))] (p6 &&& (3 : Int32))) (own_v1_213 [q1, q2, q3, q4, q5, (q1 ^^^ q2), (q3 - q4), (q5 ^^^ (-1 : Int64)), (q1 + q3), (q2 ^^^ q5), (q4 * (3 : Int64)), (q1 ^^^ (-1 : Int64))] (p6 &&& (3 : Int32))) (List.getD [q1, q2, q3, q4, q5, (q1 ^^^ q2), (q3 - q4), (q5 ^^^ (-1 : Int64)), (q1 + q3), (q2 ^^^ q5), (q4 * (3 : Int64)), (q1 ^^^ (-1 : Int64))] (((p6 &&& (3 : Int32)) + (7 : Int32)).toNatClampNeg) 0) h355 n0 X423.2.2.2.2.2.2.2.2.1 ) (hw _ (List.mem_of_getElem? (i := 8) rfl)) (hw _ (List.mem_of_getElem? (i := 9) rfl)) (hw _ (List.mem_of_getElem? (i := 10) rfl)) (hw _ (List.mem_of_getElem? (i := 11) rfl)) (by decide) (by decide) 0 (by decide) rfl own_pd1 rfl rfl (Nat.le_of_eq rfl) (by decide) (by decide) at_487 (pc' := 490) rfl fun T428 h429 lc430 r431 X432 Q433 => ?_
                obtain ⟨rfl, e434⟩ := Q433
                replace e434 := e434.symm
                subst e434
                show own_E p e below _ (T428.setTop (mkF m 490 #[.val (.long q1), .second, .val (.long q2), .second, .val (.long q3), .second, .val (.long q4), .second, .val (.long q5), .second, .val (.int p6), .val (.int (p6 &&& (3 : Int32))), .val (.ref b1), .val (.ref b81), .val (.ref b175), .val (.ref b259), .unset, .unset] [(.int (own_v0_487 q1 q2 q3 q4 q5 p6))]))
                by_cases hc435 : (own_v0_487 q1 q2 q3 q4 q5 p6) = (0 : Int32)
                · refine own_ifY X432 at_490 (teq hc435).1 (by decide) (pc' := 521) rfl ?_
                  refine own_iconst X432 at_521 (pc' := 522) rfl (z := (0 : Int32)) rfl ?_
                  have K447_ := K447 T428 _ X432
                  have q472 : (own_j0_522 q1 q2 q3 q4 q5 p6) = (0 : Int32) := by rw [own_j0_522, if_neg hc372, if_neg hc381, if_neg hc390, if_neg hc399, if_neg hc408, if_neg hc417, if_neg hc426, if_pos hc435]
                  rw [q472] at K447_
                  exact K447_
                · refine own_ifN X432 at_490 (feq hc435).1 (pc' := 493) rfl ?_
                  refine own_aload X432 at_493 (pc' := 495) rfl (v := (.ref b175)) rfl rfl ?_
                  refine own_bipush X432 at_495 (pc' := 497) rfl (z := (8 : Int32)) rfl ?_
                  refine own_laload X432 V361 (by decide) (by decide) (y := (own_v1_147 [q1, q2, q3, q4, q5, (q1 ^^^ q2), (q3 - q4), (q5 ^^^ (-1 : Int64)), (q1 + q3), (q2 ^^^ q5), (q4 * (3 : Int64)), (q1 ^^^ (-1 : Int64))] (p6 &&& (3 : Int32)))) rfl at_497 (pc' := 498) rfl ?_
                  refine own_aload X432 at_498 (pc' := 500) rfl (v := (.ref b259)) rfl rfl ?_
                  refine own_bipush X432 at_500 (pc' := 502) rfl (z := (8 : Int32)) rfl ?_
                  refine own_laload X432 V362 (by decide) (by decide) (y := (own_v1_222 [q1, q2, q3, q4, q5, (q1 ^^^ q2), (q3 - q4), (q5 ^^^ (-1 : Int64)), (q1 + q3), (q2 ^^^ q5), (q4 * (3 : Int64)), (q1 ^^^ (-1 : Int64))] (p6 &&& (3 : Int32)))) rfl at_502 (pc' := 503) rfl ?_
                  refine own_aload X432 at_503 (pc' := 505) rfl (v := (.ref b1)) rfl rfl ?_
                  refine own_iload X432 at_505 (pc' := 507) rfl (v := (p6 &&& (3 : Int32))) rfl ?_
                  refine own_bipush X432 at_507 (pc' := 509) rfl (z := (8 : Int32)) rfl ?_
                  refine own_iadd X432 at_509 (pc' := 510) rfl (z := ((p6 &&& (3 : Int32)) + (8 : Int32))) rfl ?_
                  refine own_laload X432 V363 (own_at (own_a0 p6) (own_a3 p6) (by decide) (by decide)).2.1 (own_at (own_a0 p6) (own_a3 p6) (by decide) (by decide)).2.2 (y := (List.getD [q1, q2, q3, q4, q5, (q1 ^^^ q2), (q3 - q4), (q5 ^^^ (-1 : Int64)), (q1 + q3), (q2 ^^^ q5), (q4 * (3 : Int64)), (q1 ^^^ (-1 : Int64))] (((p6 &&& (3 : Int32)) + (8 : Int32)).toNatClampNeg) 0)) rfl at_510 (pc' := 511) rfl ?_
                  refine own_callS X432 (argsL := [(.long (own_v1_147 [q1, q2, q3, q4, q5, (q1 ^^^ q2), (q3 - q4), (q5 ^^^ (-1 : Int64)), (q1 + q3), (q2 ^^^ q5), (q4 * (3 : Int64)), (q1 ^^^ (-1 : Int64))] (p6 &&& (3 : Int32)))), (.long (own_v1_222 [q1, q2, q3, q4, q5, (q1 ^^^ q2), (q3 - q4), (q5 ^^^ (-1 : Int64)), (q1 + q3), (q2 ^^^ q5), (q4 * (3 : Int64)), (q1 ^^^ (-1 : Int64))] (p6 &&& (3 : Int32)))), (.long (List.getD [q1, q2, q3, q4, q5, (q1 ^^^ q2), (q3 - q4), (q5 ^^^ (-1 : Int64)), (q1 + q3), (q2 ^^^ q5), (q4 * (3 : Int64)), (q1 ^^^ (-1 : Int64))] (((p6 &&& (3 : Int32)) + (8 : Int32)).toNatClampNeg) 0))]) (S := []) (own_rm2 l Z a0 hw (own_v1_147 [q1, q2, q3, q4, q5, (q1 ^^^ q2), (q3 - q4), (q5 ^^^ (-1 : Int64)), (q1 + q3), (q2 ^^^ q5), (q4 * (3 : Int64)), (q1 ^^^ (-1 : Int64))] (p6 &&& (3 : Int32))) (own_v1_222 [q1, q2, q3, q4, q5, (q1 ^^^ q2), (q3 - q4), (q5 ^^^ (-1 : Int64)), (q1 + q3), (q2 ^^^ q5), (q4 * (3 : Int64)), (q1 ^^^ (-1 : Int64))] (p6 &&& (3 : Int32))) (List.getD [q1, q2, q3, q4, q5, (q1 ^^^ q2), (q3 - q4), (q5 ^^^ (-1 : Int64)), (q1 + q3), (q2 ^^^ q5), (q4 * (3 : Int64)), (q1 ^^^ (-1 : Int64))] (((p6 &&& (3 : Int32)) + (8 : Int32)).toNatClampNeg) 0) h355 n0 X432.2.2.2.2.2.2.2.2.1 ) (hw _ (List.mem_of_getElem? (i := 8) rfl)) (hw _ (List.mem_of_getElem? (i := 9) rfl)) (hw _ (List.mem_of_getElem? (i := 10) rfl)) (hw _ (List.mem_of_getElem? (i := 11) rfl)) (by decide) (by decide) 0 (by decide) rfl own_pd1 rfl rfl (Nat.le_of_eq rfl) (by decide) (by decide) at_511 (pc' := 514) rfl fun T437 h438 lc439 r440 X441 Q442 => ?_
                  obtain ⟨rfl, e443⟩ := Q442
                  replace e443 := e443.symm
                  subst e443
                  show own_E p e below _ (T437.setTop (mkF m 514 #[.val (.long q1), .second, .val (.long q2), .second, .val (.long q3), .second, .val (.long q4), .second, .val (.long q5), .second, .val (.int p6), .val (.int (p6 &&& (3 : Int32))), .val (.ref b1), .val (.ref b81), .val (.ref b175), .val (.ref b259), .unset, .unset] [(.int (own_v0_511 q1 q2 q3 q4 q5 p6))]))
                  by_cases hc444 : (own_v0_511 q1 q2 q3 q4 q5 p6) = (0 : Int32)
                  · refine own_ifY X441 at_514 (teq hc444).1 (by decide) (pc' := 521) rfl ?_
                    refine own_iconst X441 at_521 (pc' := 522) rfl (z := (0 : Int32)) rfl ?_
                    have K447_ := K447 T437 _ X441
                    have q473 : (own_j0_522 q1 q2 q3 q4 q5 p6) = (0 : Int32) := by rw [own_j0_522, if_neg hc372, if_neg hc381, if_neg hc390, if_neg hc399, if_neg hc408, if_neg hc417, if_neg hc426, if_neg hc435, if_pos hc444]
                    rw [q473] at K447_
                    exact K447_
                  · refine own_ifN X441 at_514 (feq hc444).1 (pc' := 517) rfl ?_
                    refine own_iconst X441 at_517 (pc' := 518) rfl (z := (1 : Int32)) rfl ?_
                    refine own_goto X441 at_518 (by decide) (pc' := 522) rfl ?_
                    have K447_ := K447 T437 _ X441
                    have q474 : (own_j0_522 q1 q2 q3 q4 q5 p6) = (1 : Int32) := by rw [own_j0_522, if_neg hc372, if_neg hc381, if_neg hc390, if_neg hc399, if_neg hc408, if_neg hc417, if_neg hc426, if_neg hc435, if_neg hc444]
                    rw [q474] at K447_
                    exact K447_
theorem own_limb (v : Int64) : own_F2 (v &&& (4294967295 : Int64)) ((v.toUInt64 >>> (32 : UInt64)).toInt64) v = 1 := by
  have l := own_U_lt v
  have u1 := own_U_lo v
  have u2 := own_U_hi v
  have i1 := own_U_int (v &&& (4294967295 : Int64))
  have i2 := own_U_int ((v.toUInt64 >>> (32 : UInt64)).toInt64)
  rw [u1, if_pos (by omega)] at i1
  rw [u2, if_pos (by omega)] at i2
  have e0 : (0 : Int64).toInt = 0 := rfl
  have eM : (4294967295 : Int64).toInt = 4294967295 := rfl
  have hj : (v &&& (4294967295 : Int64)) ||| (((v.toUInt64 >>> (32 : UInt64)).toInt64) <<< (32 : Int64)) = v := by
    apply Int64.toBitVec_inj.mp
    rw [Int64.toBitVec_or, Int64.toBitVec_and]
    show v.toBitVec &&& (BitVec.ofNat 64 4294967295) ||| (v.toBitVec >>> 32) <<< 32 = v.toBitVec
    apply BitVec.eq_of_getLsbD_eq
    intro i hi
    have em : ((BitVec.ofNat 64 4294967295)).getLsbD i = decide (i < 32) := by
      have : ((BitVec.ofNat 64 4294967295)).getLsbD i = Nat.testBit (2 ^ 32 - 1) i := by simp [BitVec.getLsbD]
      rw [this, Nat.testBit_two_pow_sub_one]
    rw [BitVec.getLsbD_or, BitVec.getLsbD_and, em, BitVec.getLsbD_shiftLeft, BitVec.getLsbD_ushiftRight]
    by_cases c : i < 32
    · simp [c]
    · simp [c, hi, show 32 + (i - 32) = i by omega]
  rw [own_F2]
  exact own_no (by rw [own_ltL]; omega) (own_no (by rw [own_ltL]; omega) (own_no (by rw [own_ltL]; omega) (own_no (by rw [own_ltL]; omega) (own_yes hj rfl))))
theorem own_ne0 {a : Int32} (h : a = 1) : ¬ a = 0 := by rw [h]; decide
theorem own_plain (q1 q2 q3 q4 q5 : Int64) (p6 : Int32) : own_F0 q1 q2 q3 q4 q5 p6 = 1 := by
  have h : own_j0_522 q1 q2 q3 q4 q5 p6 = 1 := by
    rw [own_j0_522]
    exact own_no (own_ne0 (own_limb _)) (own_no (own_ne0 (own_limb _)) (own_no (own_ne0 (own_limb _)) (own_no (own_ne0 (own_limb _)) (own_no (own_ne0 (own_limb _)) (own_no (own_ne0 (own_limb _)) (own_no (own_ne0 (own_limb _)) (own_no (own_ne0 (own_limb _)) (own_no (own_ne0 (own_limb _)) rfl))))))))
  rw [own_F0]
  exact own_no (own_ne0 h) rfl
set_option maxRecDepth 65536 in
set_option maxHeartbeats 40000000 in
theorem own_comes {Post : Tables → Env → Array Value → State → Outcome → State → Prop} (hpost : ∀ tb e args s v u, (limb_1_1.after args s (.returned v) u = true ∧ limb_1_2.after args s (.returned v) u = true) → FrameEnd s (.returned v) u (Jvm.fieldLocs frame_1_writes args s ++ Jvm.arrayLocs frame_1_arrays args s ++ Jvm.staticLocs frame_1_statics s) 16 192 → Post tb e args s (.returned v) u) :
    ArmFor flags0 classFile x code maxLocals ret World_1 tables_1 room_1 Calls_1 rest_1 Pre_1 Post := by
  intro l hfl _ _ p e ha hc hk s m args below hf hA hF happ hP
  obtain ⟨hcalls, hrest, hpre⟩ := hP
  obtain ⟨-, -, -, hnamed, -, -, -, hat⟩ := (Spec.applies_iff hf).mp happ
  obtain ⟨hg, hn⟩ := and_e (Cond.before_iff.mp (show (Jvm.Cond.and given_1 narrow_1).before args s = true from hpre))
  obtain ⟨g1, g2⟩ := and_e hg
  obtain ⟨g3, g4⟩ := and_e g2
  obtain ⟨g5, g6⟩ := and_e g4
  obtain ⟨g7, g8⟩ := and_e g6
  obtain ⟨g9, g10⟩ := and_e g8
  obtain ⟨g11, g12⟩ := and_e g10
  obtain ⟨w0, w1, w2, w3, w4, w5, rfl⟩ : ∃ w0 w1 w2 w3 w4 w5 : Value, args = #[w0, w1, w2, w3, w4, w5] := by
    have hs : args.size = 6 := by simpa [Cond.value, given_1] using g1
    obtain ⟨L⟩ := args
    match L, hs with
    | [w0, w1, w2, w3, w4, w5], _ => exact ⟨w0, w1, w2, w3, w4, w5, rfl⟩
  have hw := fun d (hd : d ∈ tables_1) => atoms_spec (ws := Jvm.Cond.code x code maxLocals ret :: tables_1) hat d (List.mem_cons_of_mem _ hd)
  obtain ⟨i0, ei0⟩ := isL_v g3
  obtain rfl : w0 = (.long i0) := Option.some.inj ei0
  obtain ⟨i1, ei1⟩ := isL_v g5
  obtain rfl : w1 = (.long i1) := Option.some.inj ei1
  obtain ⟨i2, ei2⟩ := isL_v g7
  obtain rfl : w2 = (.long i2) := Option.some.inj ei2
  obtain ⟨i3, ei3⟩ := isL_v g9
  obtain rfl : w3 = (.long i3) := Option.some.inj ei3
  obtain ⟨i4, ei4⟩ := isL_v g11
  obtain rfl : w4 = (.long i4) := Option.some.inj ei4
  obtain ⟨i5, ei5⟩ := is_v g12
  obtain rfl : w5 = (.int i5) := Option.some.inj ei5
  obtain ⟨n, o, h1, h2, h3, v, L, rfl, ⟨hq1, N, _⟩, hq⟩ := own_rm0 l s _ hw i0 i1 i2 i3 i4 i5 s.heap s.heap.size (Nat.le_refl _)  tables_1 p e ha hc hk s m _ below hf ((Spec.applies_iff_loose hf).mp happ).1 ⟨rfl, State.Warmed39.refl s, rfl⟩ trivial
  obtain rfl : v = some (.int 1) := by rw [hq1, own_plain i0 i1 i2 i3 i4 i5]
  exact ⟨n, _, h1, h2, h3, hpost _ _ _ _ _ _ ⟨Cond.after_iff.mpr rfl, Cond.after_iff.mpr (eq_i res_at (Term.int_eval (1)) rfl)⟩ ⟨hq.1, hq.2.1, (hq.2.2.sift fun y hy => Or.inr (N y hy)).mono (by decide) (by decide)⟩⟩
theorem main_1_1 : Claimed_1_1 := own_comes fun _ _ _ _ _ _ h hF => ⟨h.1, hF⟩
theorem main_1_2 : Claimed_1_2 := own_comes fun _ _ _ _ _ _ h hF => ⟨h.2, hF⟩
end Jvm.Pilot.@@N@@
namespace Jvm.Pilot.@@N@@
open Jvm Jvm.ClassFile Sem Op Lib Jvm.Free Jvm.Stand Jvm.Pilot.@@N@@.Jvm.D
/-! MADE BY PROGRAM (witnessworld.py) out of the Statement's table words and the real class files: 11 classes; the members and pool entries that the words name. The judged class is class 1, her method 1. -/
namespace start1
open Jvm.ClassFile
def u (s : String) : CpInfo := .utf8 (stringToUtf16 s)
/-- a pool by its gaps: so many unusable entries, then the entry; so many at the end -/
def gap : Nat → List CpInfo → List CpInfo
  | 0, r => r
  | n + 1, r => .unusable :: gap n r
def poolList (es : List (Nat × CpInfo)) (last : Nat) : List CpInfo := es.foldr (fun e r => gap e.1 (e.2 :: r)) (gap last [])
def pool (es : List (Nat × CpInfo)) (last : Nat) : Array CpInfo := ⟨poolList es last⟩
def fileOf (pool : Array CpInfo) (this : Nat) (attrs : Array Attribute := #[]) (ms : Array MethodInfo := #[]) (fl : Nat := 33) (sup : Nat := 0) (ifs : Array Nat := #[]) (fds : Array FieldInfo := #[]) : ClassFile where
  minorVersion := 0
  majorVersion := 65
  constantPool := pool
  accessFlags := fl
  thisClass := this
  superClass := sup
  interfaces := ifs
  fields := fds
  methods := ms
  attributes := attrs
def plain (name : String) (sup : Option ClassId) : Class where
  name := name
  kind := .ordinary
  loader := none
  accessFlags := 33
  super := sup
  interfaces := #[]
  cf := none
  fields := #[]
  methods := #[]
  instanceTypes := #[]
  staticTypes := #[]
  resolved := #[]
  callSites := []
  init := .initialized
  statics := none
  mirror := none

def pool0 : Array CpInfo := pool [(5, u "<init>"), (0, u "()V"), (1, .class_ 10), (1, u "java/lang/Object")] 113

def k0m0 : Method := { name := "<init>", desc := "()V", sig := { parameters := [], returnType := none }, accessFlags := 1, code := none }
/-- java/lang/Object -/
def k0 : Class := { plain "java/lang/Object" none with
  accessFlags := 33
  interfaces := #[]
  cf := some (fileOf pool0 8 #[] #[{ accessFlags := 1, nameIndex := 5, descriptorIndex := 6, attributes := #[] }] 33 0 #[] #[])
  fields := #[]
  methods := #[k0m0]
  instanceTypes := #[]
  staticTypes := #[]
  resolved := Array.replicate 124 none
  statics := none }

def pool1 : Array CpInfo := pool [(2, .class_ 4), (1, u "java/lang/Object"), (0, u "<init>"), (0, u "()V"), (0, .long 18446744073709551615), (1, .long 3), (1, .methodref 12 13), (0, .class_ 14), (0, .nameAndType 15 16), (0, u "marketmint/P256Field"), (0, u "unpack"), (0, u "([J[J[JI)V"), (0, .methodref 18 19), (0, .class_ 20), (0, .nameAndType 21 22), (0, u "marketmint/P256FieldUnpackPinLaw"), (0, u "limb"), (0, u "(JJJ)Z"), (0, .long 4294967295), (3, u "law"), (0, u "(JJJJJI)Z")] 5

def k1m0 : Method := { name := "<init>", desc := "()V", sig := { parameters := [], returnType := none }, accessFlags := 1, code := none }
def k1c1 : Code := { maxStack := 7, maxLocals := 18, code := code, exceptionTable := #[], attributes := #[] }
def k1m1 : Method := { name := "law", desc := "(JJJJJI)Z", sig := { parameters := [.long, .long, .long, .long, .long, .int], returnType := some .boolean }, accessFlags := 9, code := some k1c1 }
def k1c2 : Code := { maxStack := 5, maxLocals := 6, code := method_3_code, exceptionTable := #[], attributes := #[] }
def k1m2 : Method := { name := "limb", desc := "(JJJ)Z", sig := { parameters := [.long, .long, .long], returnType := some .boolean }, accessFlags := 10, code := some k1c2 }
/-- marketmint/P256FieldUnpackPinLaw -/
def k1 : Class := { plain "marketmint/P256FieldUnpackPinLaw" (some 0) with
  accessFlags := 49
  interfaces := #[]
  cf := some (fileOf pool1 18 #[] #[{ accessFlags := 1, nameIndex := 5, descriptorIndex := 6, attributes := #[] }, { accessFlags := 9, nameIndex := 27, descriptorIndex := 28, attributes := #[] }, { accessFlags := 10, nameIndex := 21, descriptorIndex := 22, attributes := #[] }] 49 2 #[] #[])
  fields := #[]
  methods := #[k1m0, k1m1, k1m2]
  instanceTypes := #[]
  staticTypes := #[]
  resolved := Array.replicate 34 none
  statics := none }

def pool2 : Array CpInfo := pool [(1, .class_ 2), (0, u "marketmint/P256Field"), (1, .class_ 6), (1, u "java/lang/Object"), (0, u "<init>"), (0, u "()V"), (8, u "MODULUS"), (0, u "Ljava/math/BigInteger;"), (17, u "R_SQUARED"), (0, u "[J"), (6, u "NUMBER_ONE"), (2, .long 4294967295), (23, u "P0"), (0, u "J"), (2, u "P1"), (2, u "P2"), (2, u "P3"), (2, u "P4"), (2, u "P5"), (2, u "P6"), (2, u "P7"), (2, u "P8"), (2, u "ZERO"), (5, u "INVERSE_EXPONENT"), (11, u "ONE"), (25, u "PRIME"), (10, u "LIMBS"), (0, u "I"), (2, u "LIMB_BITS"), (1, u "LIMB"), (0, u "LOW_HALF"), (13, u "unpack"), (0, u "([J[J[JI)V")] 30

def k2m0 : Method := { name := "<init>", desc := "()V", sig := { parameters := [], returnType := none }, accessFlags := 2, code := none }
def k2c1 : Code := { maxStack := 6, maxLocals := 22, code := prog_65_method_9_code, exceptionTable := #[], attributes := #[] }
def k2m1 : Method := { name := "unpack", desc := "([J[J[JI)V", sig := { parameters := [(.array .long), (.array .long), (.array .long), .int], returnType := none }, accessFlags := 8, code := some k2c1 }
/-- marketmint/P256Field -/
def k2 : Class := { plain "marketmint/P256Field" (some 0) with
  accessFlags := 48
  interfaces := #[]
  cf := some (fileOf pool2 1 #[] #[{ accessFlags := 2, nameIndex := 7, descriptorIndex := 8, attributes := #[] }, { accessFlags := 8, nameIndex := 175, descriptorIndex := 176, attributes := #[] }] 48 4 #[] #[{ accessFlags := 24, nameIndex := 154, descriptorIndex := 155, attributes := #[] }, { accessFlags := 26, nameIndex := 158, descriptorIndex := 155, attributes := #[] }, { accessFlags := 26, nameIndex := 160, descriptorIndex := 72, attributes := #[] }, { accessFlags := 24, nameIndex := 161, descriptorIndex := 72, attributes := #[] }, { accessFlags := 24, nameIndex := 17, descriptorIndex := 18, attributes := #[] }, { accessFlags := 26, nameIndex := 143, descriptorIndex := 37, attributes := #[] }, { accessFlags := 26, nameIndex := 71, descriptorIndex := 72, attributes := #[] }, { accessFlags := 26, nameIndex := 75, descriptorIndex := 72, attributes := #[] }, { accessFlags := 26, nameIndex := 78, descriptorIndex := 72, attributes := #[] }, { accessFlags := 26, nameIndex := 81, descriptorIndex := 72, attributes := #[] }, { accessFlags := 26, nameIndex := 84, descriptorIndex := 72, attributes := #[] }, { accessFlags := 26, nameIndex := 87, descriptorIndex := 72, attributes := #[] }, { accessFlags := 26, nameIndex := 90, descriptorIndex := 72, attributes := #[] }, { accessFlags := 26, nameIndex := 93, descriptorIndex := 72, attributes := #[] }, { accessFlags := 26, nameIndex := 96, descriptorIndex := 72, attributes := #[] }, { accessFlags := 26, nameIndex := 36, descriptorIndex := 37, attributes := #[] }, { accessFlags := 26, nameIndex := 99, descriptorIndex := 37, attributes := #[] }, { accessFlags := 26, nameIndex := 44, descriptorIndex := 37, attributes := #[] }, { accessFlags := 24, nameIndex := 117, descriptorIndex := 37, attributes := #[] }, { accessFlags := 26, nameIndex := 105, descriptorIndex := 37, attributes := #[] }])
  fields := #[{ name := "LIMBS", type := .int, accessFlags := 24, slot := 0, constantValue := 0 }, { name := "LIMB_BITS", type := .int, accessFlags := 26, slot := 1, constantValue := 0 }, { name := "LIMB", type := .long, accessFlags := 26, slot := 2, constantValue := 0 }, { name := "LOW_HALF", type := .long, accessFlags := 24, slot := 3, constantValue := 0 }, { name := "MODULUS", type := (.object "java/math/BigInteger"), accessFlags := 24, slot := 4, constantValue := 0 }, { name := "PRIME", type := (.array .long), accessFlags := 26, slot := 5, constantValue := 0 }, { name := "P0", type := .long, accessFlags := 26, slot := 6, constantValue := 0 }, { name := "P1", type := .long, accessFlags := 26, slot := 7, constantValue := 0 }, { name := "P2", type := .long, accessFlags := 26, slot := 8, constantValue := 0 }, { name := "P3", type := .long, accessFlags := 26, slot := 9, constantValue := 0 }, { name := "P4", type := .long, accessFlags := 26, slot := 10, constantValue := 0 }, { name := "P5", type := .long, accessFlags := 26, slot := 11, constantValue := 0 }, { name := "P6", type := .long, accessFlags := 26, slot := 12, constantValue := 0 }, { name := "P7", type := .long, accessFlags := 26, slot := 13, constantValue := 0 }, { name := "P8", type := .long, accessFlags := 26, slot := 14, constantValue := 0 }, { name := "R_SQUARED", type := (.array .long), accessFlags := 26, slot := 15, constantValue := 0 }, { name := "ZERO", type := (.array .long), accessFlags := 26, slot := 16, constantValue := 0 }, { name := "NUMBER_ONE", type := (.array .long), accessFlags := 26, slot := 17, constantValue := 0 }, { name := "ONE", type := (.array .long), accessFlags := 24, slot := 18, constantValue := 0 }, { name := "INVERSE_EXPONENT", type := (.array .long), accessFlags := 26, slot := 19, constantValue := 0 }]
  methods := #[k2m0, k2m1]
  instanceTypes := #[]
  staticTypes := #[.int, .int, .long, .long, (.object "java/math/BigInteger"), (.array .long), .long, .long, .long, .long, .long, .long, .long, .long, .long, (.array .long), (.array .long), (.array .long), (.array .long), (.array .long)]
  resolved := Array.replicate 207 none
  statics := none }

def pool3 : Array CpInfo := pool [(1, u "java/lang/Cloneable"), (0, .class_ 1), (0, u "java/lang/Object"), (0, .class_ 3)] 3

/-- java/lang/Cloneable -/
def k3 : Class := { plain "java/lang/Cloneable" (some 0) with
  accessFlags := 1537
  interfaces := #[]
  cf := some (fileOf pool3 2 #[] #[] 1537 4 #[] #[])
  fields := #[]
  methods := #[]
  instanceTypes := #[]
  staticTypes := #[]
  resolved := Array.replicate 8 none
  statics := none }

def pool4 : Array CpInfo := pool [(1, u "java/io/Serializable"), (0, .class_ 1), (0, u "java/lang/Object"), (0, .class_ 3)] 3

/-- java/io/Serializable -/
def k4 : Class := { plain "java/io/Serializable" (some 0) with
  accessFlags := 1537
  interfaces := #[]
  cf := some (fileOf pool4 2 #[] #[] 1537 4 #[] #[])
  fields := #[]
  methods := #[]
  instanceTypes := #[]
  staticTypes := #[]
  resolved := Array.replicate 8 none
  statics := none }

/-- the primitive byte -/
def k5 : Class := { plain "byte" none with kind := .primitive 'B', accessFlags := 0x411 }
/-- [B -/
def k6 : Class := { plain "[B" (some 0) with kind := .array 5 .byte, interfaces := #[3, 4], accessFlags := 1041 }

/-- the primitive int -/
def k7 : Class := { plain "int" none with kind := .primitive 'I', accessFlags := 0x411 }
/-- [I -/
def k8 : Class := { plain "[I" (some 0) with kind := .array 7 .int, interfaces := #[3, 4], accessFlags := 1041 }

/-- the primitive long -/
def k9 : Class := { plain "long" none with kind := .primitive 'J', accessFlags := 0x411 }
/-- [J -/
def k10 : Class := { plain "[J" (some 0) with kind := .array 9 .long, interfaces := #[3, 4], accessFlags := 1041 }

def heap : Heap := #[]
def classes : Array Class := #[k0, k1, k2, k3, k4, k5, k6, k7, k8, k9, k10]
def interned : List (Array UInt16 × Addr) := []
def slotsUsed : Nat := 0
def theMethod : MethodId := ⟨1, 1⟩
def args0 : Array Value := #[.long 5, .long 6, .long 7, .long 8, .long 9, .int 2]
def aboutOver (below : List Frame) : State where
  vm := { classes := classes, interned := interned.toArray }
  heap := heap
  slotsUsed := slotsUsed
  threads := #[{ frames := .invoking theMethod args0 :: below }]
def below0 : List Frame := [.native { method := ⟨0, 0⟩, args := #[] }]
def about1 : State := aboutOver below0
def p0 : Program := .bare "" "" ""
def e0 : Env := launch0.env 0 0 0
theorem w_frames : about1.frames = Frame.invoking theMethod args0 :: below0 := rfl
set_option maxRecDepth 65536 in
theorem w_args : argsFit about1.vm theMethod args0 = true := by decide +kernel
set_option maxRecDepth 65536 in
theorem w_heap : heapFits about1 = true := by decide +kernel
set_option maxRecDepth 65536 in
theorem w_runnable : about1.curStatus? = some .runnable := by decide +kernel
set_option maxRecDepth 65536 in
theorem w_alone : about1.alone = true := by decide +kernel
set_option maxRecDepth 65536 in
theorem w_named : about1.methodNamed? x = some theMethod := by decide +kernel
set_option maxRecDepth 65536 in
theorem w_hears : about1.hears theMethod below0 = true := by decide +kernel
set_option maxRecDepth 65536 in
theorem w_ripe : about1.ripe theMethod args0 below0 = true := by decide +kernel
theorem w_running : about1.status = .running := rfl
set_option maxRecDepth 65536 in
theorem w_room : about1.hasRoom e0.platform room_1 = true :=
  launch0.hasRoom_least _ room_1 (by decide +kernel) (by decide +kernel) (by decide +kernel) (by decide +kernel) (by decide +kernel) (by decide +kernel)
theorem allAtoms_all (ts : List Jvm.Cond) (a : Array Jvm.Value) (st : Jvm.State) : (allAtoms ts).before a st = ts.all (fun c => c.before a st) := by
  induction ts with
  | nil => rfl
  | cons c t ih =>
    show (Jvm.Cond.and c (allAtoms t)).before a st = _
    rw [Jvm.Cond.before_and, ih, List.all_cons]
def words1 : List Jvm.Cond := Jvm.Cond.code x code maxLocals ret :: tables_1
/-- a 'code' word, met by the world's own term for the bytes: nothing is compared byte by byte -/
theorem code_word {y : MethodName} {bytes : ByteArray} {mx : Nat} {rt : Option FieldType} {a : Array Value} {s : State} {m : MethodId} {meth : Method} {c : Code} (h1 : s.methodNamed? y = some m) (h2 : s.vm.method? m = some meth) (h3 : meth.code = some c) (h4 : c.code = bytes)
    (h5 : (c.maxLocals == mx && c.exceptionTable.isEmpty && decide (c.maxStack ≤ mostOperands) && decide (meth.sig.returnType = rt) && !meth.locks && decide (parseMethodDescriptor y.desc = some meth.sig)) = true) : (Jvm.Cond.code y bytes mx rt).before a s = true := by
  simp only [Bool.and_eq_true, beq_iff_eq, Bool.not_eq_true', decide_eq_true_eq] at h5
  obtain ⟨⟨⟨⟨⟨g1, g2⟩, g3⟩, g4⟩, g5⟩, g6⟩ := h5
  simp [Cond.before, Cond.holds, Cond.value, h1, h2, h3, h4, g1, g2, g3, g4, g5, g6]
def isCode : Jvm.Cond → Bool
  | .code _ _ _ _ => true
  | _ => false
theorem all_split {L : List Jvm.Cond} {P : Jvm.Cond → Bool} (h1 : L.all (fun c => isCode c || P c) = true) (h2 : ∀ c ∈ L.filter isCode, P c = true) : L.all P = true := by
  refine List.all_eq_true.mpr fun c hc => ?_
  have h := List.all_eq_true.mp h1 c hc
  rcases Bool.eq_false_or_eq_true (isCode c) with hi | hi
  · exact h2 c (List.mem_filter.mpr ⟨hc, hi⟩)
  · simpa [hi] using h
set_option maxRecDepth 65536 in
theorem w_c0 : (Jvm.Cond.code x code maxLocals ret).before args0 about1 = true := code_word (m := ⟨1, 1⟩) (meth := k1m1) (c := k1c1) (by decide +kernel) rfl rfl rfl (by decide +kernel)
set_option maxRecDepth 65536 in
theorem w_c1 : (Jvm.Cond.code ({ cls := "marketmint/P256Field", name := "unpack", desc := "([J[J[JI)V" } : Jvm.MethodName) prog_65_method_9_code (22 : Nat) (Option.none : Option Jvm.ClassFile.FieldType)).before args0 about1 = true := code_word (m := ⟨2, 1⟩) (meth := k2m1) (c := k2c1) (by decide +kernel) rfl rfl rfl (by decide +kernel)
set_option maxRecDepth 65536 in
theorem w_c2 : (Jvm.Cond.code ({ cls := "marketmint/P256FieldUnpackPinLaw", name := "limb", desc := "(JJJ)Z" } : Jvm.MethodName) method_3_code (6 : Nat) (Option.some Jvm.ClassFile.FieldType.boolean)).before args0 about1 = true := code_word (m := ⟨1, 2⟩) (meth := k1m2) (c := k1c2) (by decide +kernel) rfl rfl rfl (by decide +kernel)
def codes1 : List Jvm.Cond := [Jvm.Cond.code x code maxLocals ret, Jvm.Cond.code ({ cls := "marketmint/P256Field", name := "unpack", desc := "([J[J[JI)V" } : Jvm.MethodName) prog_65_method_9_code (22 : Nat) (Option.none : Option Jvm.ClassFile.FieldType), Jvm.Cond.code ({ cls := "marketmint/P256FieldUnpackPinLaw", name := "limb", desc := "(JJJ)Z" } : Jvm.MethodName) method_3_code (6 : Nat) (Option.some Jvm.ClassFile.FieldType.boolean)]
set_option maxRecDepth 65536 in
theorem codes_eq : words1.filter isCode = codes1 := rfl
theorem w_codes : ∀ c ∈ words1.filter isCode, c.before args0 about1 = true := by
  rw [codes_eq]
  intro c hc
  simp only [codes1, List.mem_cons, List.not_mem_nil, or_false] at hc
  rcases hc with rfl | rfl | rfl
  · exact w_c0
  · exact w_c1
  · exact w_c2
set_option maxRecDepth 65536 in
theorem w_t1 : words1.all (fun c => isCode c || c.before args0 about1) = true := by decide +kernel
theorem w_tables : (allAtoms (Jvm.Cond.code x code maxLocals ret :: tables_1)).before args0 about1 = true := by
  rw [allAtoms_all]
  show words1.all (fun c => c.before args0 about1) = true
  refine all_split ?_ w_codes
  rw [w_t1]
set_option maxRecDepth 65536 in
theorem w_case : (Jvm.Cond.and given_1 narrow_1).before args0 about1 = true := by decide +kernel
theorem w_applies : (headSpec (Jvm.Cond.code x code maxLocals ret :: tables_1) room_1).applies x e0.platform about1 = true :=
  (Spec.applies_iff w_frames).mpr ⟨w_running, w_runnable, w_alone, w_named, w_hears, w_ripe, w_room, w_tables⟩
theorem atStart : AtStart classFile x code maxLocals ret World_1 tables_1 room_1 Calls_1 rest_1 Pre_1 launch0 p0 e0 about1 theMethod args0 below0 :=
  ⟨lists_1, trivial, launch0.admits_env _ _ _, launch0.least_env, fairChoices_fair.cas, fairChoices_fair.clock, w_frames, w_args, w_heap, w_applies, trivial, trivial, w_case⟩
end start1
theorem witness_1 : WitnessClaimed_1 := ⟨start1.p0, start1.e0, start1.about1, start1.theMethod, start1.args0, start1.below0, start1.atStart⟩
end Jvm.Pilot.@@N@@
