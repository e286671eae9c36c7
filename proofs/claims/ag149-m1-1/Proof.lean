import JvmDerived
import JvmDerived.Pilot.@@N@@Statement
import JvmDerived.Pilot.@@N@@Code
set_option linter.unusedVariables false
set_option linter.unusedSimpArgs false
namespace Jvm.Pilot.@@N@@
open Jvm Jvm.ClassFile Sem Op Lib Jvm.Free Jvm.Stand Jvm.LawKit Jvm.RoadKit Bundle Jvm.Pilot.@@N@@.Jvm.D
/-! OWN KIT: the walk's steps in one form: 'own_A' where the run stands, 'own_E' that it ends as G says. -/
def own_E (p : Program) (e : Env) (below : List Frame) (G : Outcome → State → Prop) (A : State) : Prop := ∃ s₂ o, Steps p.tables e below A s₂ ∧ s₂.status = .running ∧ Ended s₂ below o ∧ G o s₂
def own_A (l : Launch) (Z : State) (own : String) (cb : ByteArray) (ml n0 : Nat) (p : Program) (e : Env) (R : Room) (s : State) (m : MethodId) (args : Array Value) (below : List Frame) (meth : Method) (c : Code) (T : State) (h : Heap) (locs : List Loc) (cells slots : Nat) : Prop :=
  Stand p l e R s m args below meth c T locs cells slots ∧ p.tables.exec = Jvm.exec ∧ Z.Warmed39 s.vm ∧ c.code = cb ∧ c.maxLocals = ml ∧ s.vm.findClass own = some m.cls ∧ T.heap = h ∧ Fr n0 locs ∧ n0 ≤ h.size ∧ meth.locks = false
def own_G (R : Room) (s : State) (n0 : Nat) (Q : Option Value → Heap → Prop) (o : Outcome) (U : State) : Prop := ∃ v L, o = .returned v ∧ (Q v U.heap ∧ Fr n0 L ∧ n0 ≤ U.heap.size) ∧ FrameEnd s o U L R.cells R.slots
def own_Con (l : Launch) (Z : State) (y : MethodName) (cb : ByteArray) (ml : Nat) (ret : Option FieldType) (rm : Room) (as' : Array Value) (h0 : Heap) (n0 : Nat) (Q : Option Value → Heap → Prop) : Prop :=
  ∀ ws, MetFree l y (head1 (Jvm.Cond.code y cb ml ret :: ws) rm) (fun a U => a = as' ∧ Z.Warmed39 U.vm ∧ U.heap = h0) (fun _ _ _ _ _ => True) (fun _ U o U' => ∃ v L, o = .returned v ∧ (Q v U'.heap ∧ Fr n0 L ∧ n0 ≤ U'.heap.size) ∧ FrameEnd U o U' L rm.cells rm.slots)
theorem own_b255 (x : Int32) : x &&& 255 = x.toInt8.toInt32 &&& 255 := by
  apply Int32.toBitVec_inj.mp
  rw [Int32.toBitVec_and, Int32.toBitVec_and]
  show x.toBitVec &&& (BitVec.ofNat 32 255) = (x.toBitVec.signExtend 8).signExtend 32 &&& (BitVec.ofNat 32 255)
  apply BitVec.eq_of_getLsbD_eq
  intro i hi
  rw [BitVec.getLsbD_and, BitVec.getLsbD_and, BitVec.getLsbD_signExtend, BitVec.getLsbD_signExtend]
  by_cases h : i < 8
  · simp [h, hi]
  · have : ((BitVec.ofNat 32 255)).getLsbD i = false := by
      have h2 : 8 ≤ i := by omega
      have : ((BitVec.ofNat 32 255)).getLsbD i = Nat.testBit 255 i := by simp [BitVec.getLsbD]
      rw [this]; exact Nat.testBit_lt_two_pow (Nat.lt_of_lt_of_le (by decide : 255 < 2^8) (Nat.pow_le_pow_right (by decide) h2))
    simp [this]
theorem own_lremE (x y : Int64) : x - (x / y) * y = x % y := by
  apply Int64.toInt_inj.mp
  have h1 := Int64.le_toInt (x % y)
  have h2 := Int64.toInt_lt (x % y)
  rw [Int64.toInt_sub, Int64.toInt_mul, Int64.toInt_div, Int.bmod_mul_bmod, Int.sub_bmod_bmod, Int.mul_comm (x.toInt.tdiv y.toInt), ← Int.tmod_def, ← Int64.toInt_mod]
  exact Int.bmod_eq_of_le_mul_two (by omega) (by omega)
theorem own_addc (x a b c : Int32) (h : a + b = c) : (x + a) + b = x + c := by rw [Int32.add_assoc, h]
theorem own_nb (t : Int32) : nar .byte (t.toInt8.toInt32) = t.toInt8.toInt32 := by
  show (t.toInt8.toInt32).toInt8.toInt32 = t.toInt8.toInt32
  simp
section OwnKit
variable {l : Launch} {Z : State} {a0 : Array Value} {own : String} {cb : ByteArray} {ml n0 : Nat} {p : Program} {e : Env} {R : Room} {s : State} {m : MethodId} {args : Array Value} {below : List Frame} {meth : Method} {c : Code} {T : State} {h h' : Heap} {locs : List Loc} {cells slots : Nat} {G : Outcome → State → Prop} {pc pc' : Nat} {Ls Ls' : Array Slot} {S : List Value}
theorem own_go {A B : State} (h : ∀ t, Steps p.tables e below B t → Steps p.tables e below A t) (k : own_E p e below G B) : own_E p e below G A := by
  obtain ⟨s₂, o, h1, r⟩ := k; exact ⟨s₂, o, h _ h1, r⟩
theorem own_enter {y : MethodName} {ret : Option FieldType} {as' : Array Value} {h0 : Heap} {Q : Option Value → Heap → Prop} (hpl : plainFor y = true) (hsz : n0 ≤ h0.size) (hef : ∀ m, entryFrame m as' ml = mkF m 0 Ls [])
    (k : ∀ p e s m below meth c T, own_A l Z y.cls cb ml n0 p e R s m as' below meth c T h0 [] 0 0 → meth.sig.returnType = ret → meth.name = y.name → own_E p e below (own_G R s n0 Q) (T.setTop (mkF m 0 Ls []))) : own_Con l Z y cb ml ret R as' h0 n0 Q := by
  intro ws
  refine MetFree.of_bodySF hpl hisR ?_
  intro p e s m args below meth c s₁ Bd hml0 hP hK
  obtain ⟨rfl, hZ, hh⟩ := hP
  have e0 : s₁.heap = h0 := by rw [← hh, Bd.state]; rfl
  have K := k p e s m below meth c s₁ ⟨Stand.of_body Bd, Bd.exec, hZ, Bd.bytes, hml0, findClass_of_methodNamed Bd.named, e0, Fr.nil n0, hsz, Bd.notSynchronized⟩ Bd.returns (name_of_methodNamed Bd.named Bd.method).1
  obtain ⟨s₂, o, h1, h2, h3, h4⟩ := K
  exact ⟨s₂, o, castTop (hef m) h1, h2, h3, h4⟩
theorem own_iret (X : own_A l Z own cb ml n0 p e R s m args below meth c T h locs cells slots) {t : FieldType} {z w : Int32} {Q : Option Value → Heap → Prop} (hr : meth.sig.returnType = some t) (ht : t = .int ∨ t = .boolean ∨ t = .byte ∨ t = .char ∨ t = .short) (hd : decode cb pc = .ok (.ireturn, 1)) (hz : nar t z = w) (hc : cells ≤ R.cells) (hs : slots ≤ R.slots) (hQ : Q (some (.int w)) h) :
    own_E p e below (own_G R s n0 Q) (T.setTop (mkF m pc Ls (.int z :: S))) := by
  obtain ⟨X, hx, hZ, hby, hml, hown, rfl, N, hsz, hlk⟩ := X
  subst hz
  obtain ⟨fs, hl, hrun, hended, hW, hsame⟩ := X.leave (v := some (.int (nar t z))) (fun q => by rw [hr] at q; cases q) hlk
  refine ⟨_, _, ?_, hrun, hended, _, locs, rfl, ⟨hQ, N, hsz⟩, ⟨_, rfl⟩, hW, hsame.mono hc hs⟩
  rcases ht with rfl | ht
  · exact retOut X hx hr rfl (Or.inl ⟨rfl, Or.inl rfl, z, rfl⟩) (hb hby hd) hl
  · exact retN X hx hr ht (hb hby hd) hl
theorem own_lret (X : own_A l Z own cb ml n0 p e R s m args below meth c T h locs cells slots) {z : Int64} {Q : Option Value → Heap → Prop} (hr : meth.sig.returnType = some .long) (hd : decode cb pc = .ok (.lreturn, 1)) (hc : cells ≤ R.cells) (hs : slots ≤ R.slots) (hQ : Q (some (.long z)) h) :
    own_E p e below (own_G R s n0 Q) (T.setTop (mkF m pc Ls (.long z :: S))) := by
  obtain ⟨X, hx, hZ, hby, hml, hown, rfl, N, hsz, hlk⟩ := X
  obtain ⟨fs, hl, hrun, hended, hW, hsame⟩ := X.leave (v := some (.long z)) (fun q => by rw [hr] at q; cases q) hlk
  exact ⟨_, _, retOut X hx hr rfl (Or.inr (Or.inl ⟨rfl, rfl, z, rfl⟩)) (hb hby hd) hl, hrun, hended, _, locs, rfl, ⟨hQ, N, hsz⟩, ⟨_, rfl⟩, hW, hsame.mono hc hs⟩
theorem own_aret (X : own_A l Z own cb ml n0 p e R s m args below meth c T h locs cells slots) {t : FieldType} {v : Value} {Q : Option Value → Heap → Prop} (hr : meth.sig.returnType = some t) (ht : t.isReference = true) (hv : v.isRef = true) (hn : narrow t v = v) (hd : decode cb pc = .ok (.areturn, 1)) (hc : cells ≤ R.cells) (hs : slots ≤ R.slots) (hQ : Q (some v) h) :
    own_E p e below (own_G R s n0 Q) (T.setTop (mkF m pc Ls (v :: S))) := by
  obtain ⟨X, hx, hZ, hby, hml, hown, rfl, N, hsz, hlk⟩ := X
  obtain ⟨fs, hl, hrun, hended, hW, hsame⟩ := X.leave (v := some v) (fun q => by rw [hr] at q; cases q) hlk
  exact ⟨_, _, retOut X hx hr hn (Or.inr (Or.inr (Or.inr (Or.inr ⟨rfl, ht, hv⟩)))) (hb hby hd) hl, hrun, hended, _, locs, rfl, ⟨hQ, N, hsz⟩, ⟨_, rfl⟩, hW, hsame.mono hc hs⟩
theorem own_vret (X : own_A l Z own cb ml n0 p e R s m args below meth c T h locs cells slots) {Q : Option Value → Heap → Prop} (hr : meth.sig.returnType = none) (hd : decode cb pc = .ok (.return_, 1)) (hc : cells ≤ R.cells) (hs : slots ≤ R.slots) (hQ : Q none h) :
    own_E p e below (own_G R s n0 Q) (T.setTop (mkF m pc Ls [])) := by
  obtain ⟨X, hx, hZ, hby, hml, hown, rfl, N, hsz, hlk⟩ := X
  obtain ⟨fs, hl, hrun, hended, hW, hsame⟩ := X.leave (v := none) (fun _ => rfl) hlk
  exact ⟨_, _, X.returnOut hx hr (hb hby hd) hl, hrun, hended, _, locs, rfl, ⟨hQ, N, hsz⟩, ⟨_, rfl⟩, hW, hsame.mono hc hs⟩
theorem own_iloadN (X : own_A l Z own cb ml n0 p e R s m args below meth c T h locs cells slots) {i : Fin 4} {v : Int32} (hd : decode cb pc = .ok (.iload_n i, 1)) (hp : pc + 1 = pc') (hl : Ls[i.val]? = some (.val (.int v))) (k : own_E p e below G (T.setTop (mkF m pc' Ls (.int v :: S)))) : own_E p e below G (T.setTop (mkF m pc Ls S)) := by
  subst hp; exact own_go (fun _ => XS.iloadN X.1.here X.2.1 rfl (hb X.2.2.2.1 hd) hl) k
theorem own_iload (X : own_A l Z own cb ml n0 p e R s m args below meth c T h locs cells slots) {i : Nat} {v : Int32} (hd : decode cb pc = .ok (.iload i, 2)) (hp : pc + 2 = pc') (hl : Ls[i]? = some (.val (.int v))) (k : own_E p e below G (T.setTop (mkF m pc' Ls (.int v :: S)))) : own_E p e below G (T.setTop (mkF m pc Ls S)) := by
  subst hp; exact own_go (fun _ => XS.iload X.1.here X.2.1 rfl (hb X.2.2.2.1 hd) hl) k
theorem own_istoreN (X : own_A l Z own cb ml n0 p e R s m args below meth c T h locs cells slots) {i : Fin 4} {x y : Int32} (hd : decode cb pc = .ok (.istore_n i, 1)) (hp : pc + 1 = pc') (hv : x = y) (hl : storeLocals Ls i.val (.int y) = some Ls') (k : own_E p e below G (T.setTop (mkF m pc' Ls' S))) : own_E p e below G (T.setTop (mkF m pc Ls (.int x :: S))) := by
  subst hp; subst hv; exact own_go (fun _ => XS.istoreN X.1.here X.2.1 rfl (hb X.2.2.2.1 hd) rfl hl) k
theorem own_istore (X : own_A l Z own cb ml n0 p e R s m args below meth c T h locs cells slots) {i : Nat} {x y : Int32} (hd : decode cb pc = .ok (.istore i, 2)) (hp : pc + 2 = pc') (hv : x = y) (hl : storeLocals Ls i (.int y) = some Ls') (k : own_E p e below G (T.setTop (mkF m pc' Ls' S))) : own_E p e below G (T.setTop (mkF m pc Ls (.int x :: S))) := by
  subst hp; subst hv; exact own_go (fun _ => XS.istore X.1.here X.2.1 rfl (hb X.2.2.2.1 hd) rfl hl) k
theorem own_lloadN (X : own_A l Z own cb ml n0 p e R s m args below meth c T h locs cells slots) {i : Fin 4} {v : Int64} (hd : decode cb pc = .ok (.lload_n i, 1)) (hp : pc + 1 = pc') (hl : Ls[i.val]? = some (.val (.long v))) (k : own_E p e below G (T.setTop (mkF m pc' Ls (.long v :: S)))) : own_E p e below G (T.setTop (mkF m pc Ls S)) := by
  subst hp; exact own_go (fun _ => XS.lloadN X.1.here X.2.1 rfl (hb X.2.2.2.1 hd) hl) k
theorem own_lload (X : own_A l Z own cb ml n0 p e R s m args below meth c T h locs cells slots) {i : Nat} {v : Int64} (hd : decode cb pc = .ok (.lload i, 2)) (hp : pc + 2 = pc') (hl : Ls[i]? = some (.val (.long v))) (k : own_E p e below G (T.setTop (mkF m pc' Ls (.long v :: S)))) : own_E p e below G (T.setTop (mkF m pc Ls S)) := by
  subst hp; exact own_go (fun _ => XS.lload X.1.here X.2.1 rfl (hb X.2.2.2.1 hd) hl) k
theorem own_lstoreN (X : own_A l Z own cb ml n0 p e R s m args below meth c T h locs cells slots) {i : Fin 4} {x y : Int64} (hd : decode cb pc = .ok (.lstore_n i, 1)) (hp : pc + 1 = pc') (hv : x = y) (hl : storeLocals Ls i.val (.long y) = some Ls') (k : own_E p e below G (T.setTop (mkF m pc' Ls' S))) : own_E p e below G (T.setTop (mkF m pc Ls (.long x :: S))) := by
  subst hp; subst hv; exact own_go (fun _ => XS.lstoreN X.1.here X.2.1 rfl (hb X.2.2.2.1 hd) rfl hl) k
theorem own_lstore (X : own_A l Z own cb ml n0 p e R s m args below meth c T h locs cells slots) {i : Nat} {x y : Int64} (hd : decode cb pc = .ok (.lstore i, 2)) (hp : pc + 2 = pc') (hv : x = y) (hl : storeLocals Ls i (.long y) = some Ls') (k : own_E p e below G (T.setTop (mkF m pc' Ls' S))) : own_E p e below G (T.setTop (mkF m pc Ls (.long x :: S))) := by
  subst hp; subst hv; exact own_go (fun _ => XS.lstore X.1.here X.2.1 rfl (hb X.2.2.2.1 hd) rfl hl) k
theorem own_aloadN (X : own_A l Z own cb ml n0 p e R s m args below meth c T h locs cells slots) {i : Fin 4} {v : Value} (hd : decode cb pc = .ok (.aload_n i, 1)) (hp : pc + 1 = pc') (hl : Ls[i.val]? = some (.val v)) (hr : v.isRef = true) (k : own_E p e below G (T.setTop (mkF m pc' Ls (v :: S)))) : own_E p e below G (T.setTop (mkF m pc Ls S)) := by
  subst hp; exact own_go (fun _ => XS.aloadN X.1.here X.2.1 rfl (hb X.2.2.2.1 hd) hl hr) k
theorem own_aload (X : own_A l Z own cb ml n0 p e R s m args below meth c T h locs cells slots) {i : Nat} {v : Value} (hd : decode cb pc = .ok (.aload i, 2)) (hp : pc + 2 = pc') (hl : Ls[i]? = some (.val v)) (hr : v.isRef = true) (k : own_E p e below G (T.setTop (mkF m pc' Ls (v :: S)))) : own_E p e below G (T.setTop (mkF m pc Ls S)) := by
  subst hp; exact own_go (fun _ => XS.aload X.1.here X.2.1 rfl (hb X.2.2.2.1 hd) hl hr) k
theorem own_astoreN (X : own_A l Z own cb ml n0 p e R s m args below meth c T h locs cells slots) {i : Fin 4} {v : Value} (hd : decode cb pc = .ok (.astore_n i, 1)) (hp : pc + 1 = pc') (hr : v.isRef = true) (hl : storeLocals Ls i.val v = some Ls') (k : own_E p e below G (T.setTop (mkF m pc' Ls' S))) : own_E p e below G (T.setTop (mkF m pc Ls (v :: S))) := by
  subst hp; exact own_go (fun _ => XS.astoreN X.1.here X.2.1 rfl (hb X.2.2.2.1 hd) rfl hr hl) k
theorem own_astore (X : own_A l Z own cb ml n0 p e R s m args below meth c T h locs cells slots) {i : Nat} {v : Value} (hd : decode cb pc = .ok (.astore i, 2)) (hp : pc + 2 = pc') (hr : v.isRef = true) (hl : storeLocals Ls i v = some Ls') (k : own_E p e below G (T.setTop (mkF m pc' Ls' S))) : own_E p e below G (T.setTop (mkF m pc Ls (v :: S))) := by
  subst hp; exact own_go (fun _ => XS.astore X.1.here X.2.1 rfl (hb X.2.2.2.1 hd) rfl hr hl) k
theorem own_iconst (X : own_A l Z own cb ml n0 p e R s m args below meth c T h locs cells slots) {i : Int} {z : Int32} (hd : decode cb pc = .ok (.iconst i, 1)) (hp : pc + 1 = pc') (hz : Int32.ofInt i = z) (k : own_E p e below G (T.setTop (mkF m pc' Ls (.int z :: S)))) : own_E p e below G (T.setTop (mkF m pc Ls S)) := by
  subst hp; subst hz; exact own_go (fun _ => XS.iconst X.1.here X.2.1 rfl (hb X.2.2.2.1 hd)) k
theorem own_bipush (X : own_A l Z own cb ml n0 p e R s m args below meth c T h locs cells slots) {i : Int} {z : Int32} (hd : decode cb pc = .ok (.bipush i, 2)) (hp : pc + 2 = pc') (hz : (Int8.ofInt i).toInt32 = z) (k : own_E p e below G (T.setTop (mkF m pc' Ls (.int z :: S)))) : own_E p e below G (T.setTop (mkF m pc Ls S)) := by
  subst hp; subst hz; exact own_go (fun _ => XS.bipush X.1.here X.2.1 rfl (hb X.2.2.2.1 hd)) k
theorem own_sipush (X : own_A l Z own cb ml n0 p e R s m args below meth c T h locs cells slots) {i : Int} {z : Int32} (hd : decode cb pc = .ok (.sipush i, 3)) (hp : pc + 3 = pc') (hz : (Int16.ofInt i).toInt32 = z) (k : own_E p e below G (T.setTop (mkF m pc' Ls (.int z :: S)))) : own_E p e below G (T.setTop (mkF m pc Ls S)) := by
  subst hp; subst hz; exact own_go (fun _ => XS.sipush X.1.here X.2.1 rfl (hb X.2.2.2.1 hd)) k
theorem own_lconst (X : own_A l Z own cb ml n0 p e R s m args below meth c T h locs cells slots) {i : Fin 2} {z : Int64} (hd : decode cb pc = .ok (.lconst i, 1)) (hp : pc + 1 = pc') (hz : Int64.ofNat i = z) (k : own_E p e below G (T.setTop (mkF m pc' Ls (.long z :: S)))) : own_E p e below G (T.setTop (mkF m pc Ls S)) := by
  subst hp; subst hz; exact own_go (fun _ => XS.lconst X.1.here X.2.1 rfl (hb X.2.2.2.1 hd)) k
theorem own_anull (X : own_A l Z own cb ml n0 p e R s m args below meth c T h locs cells slots)  (hd : decode cb pc = .ok (.aconst_null, 1)) (hp : pc + 1 = pc') (k : own_E p e below G (T.setTop (mkF m pc' Ls (.null :: S)))) : own_E p e below G (T.setTop (mkF m pc Ls S)) := by
  subst hp; exact own_go (fun _ => XS.aconstNull X.1.here X.2.1 rfl (hb X.2.2.2.1 hd)) k
theorem own_iadd (X : own_A l Z own cb ml n0 p e R s m args below meth c T h locs cells slots) {x y z : Int32} (hd : decode cb pc = .ok (.iadd, 1)) (hp : pc + 1 = pc') (hz : x + y = z) (k : own_E p e below G (T.setTop (mkF m pc' Ls (.int z :: S)))) : own_E p e below G (T.setTop (mkF m pc Ls (.int y :: .int x :: S))) := by
  subst hp; subst hz; exact own_go (fun _ => XS.iadd X.1.here X.2.1 rfl (hb X.2.2.2.1 hd) rfl) k
theorem own_isub (X : own_A l Z own cb ml n0 p e R s m args below meth c T h locs cells slots) {x y z : Int32} (hd : decode cb pc = .ok (.isub, 1)) (hp : pc + 1 = pc') (hz : x - y = z) (k : own_E p e below G (T.setTop (mkF m pc' Ls (.int z :: S)))) : own_E p e below G (T.setTop (mkF m pc Ls (.int y :: .int x :: S))) := by
  subst hp; subst hz; exact own_go (fun _ => XS.isub X.1.here X.2.1 rfl (hb X.2.2.2.1 hd) rfl) k
theorem own_imul (X : own_A l Z own cb ml n0 p e R s m args below meth c T h locs cells slots) {x y z : Int32} (hd : decode cb pc = .ok (.imul, 1)) (hp : pc + 1 = pc') (hz : x * y = z) (k : own_E p e below G (T.setTop (mkF m pc' Ls (.int z :: S)))) : own_E p e below G (T.setTop (mkF m pc Ls (.int y :: .int x :: S))) := by
  subst hp; subst hz; exact own_go (fun _ => XS.imul X.1.here X.2.1 rfl (hb X.2.2.2.1 hd) rfl) k
theorem own_iand (X : own_A l Z own cb ml n0 p e R s m args below meth c T h locs cells slots) {x y z : Int32} (hd : decode cb pc = .ok (.iand, 1)) (hp : pc + 1 = pc') (hz : x &&& y = z) (k : own_E p e below G (T.setTop (mkF m pc' Ls (.int z :: S)))) : own_E p e below G (T.setTop (mkF m pc Ls (.int y :: .int x :: S))) := by
  subst hp; subst hz; exact own_go (fun _ => XS.iand X.1.here X.2.1 rfl (hb X.2.2.2.1 hd) rfl) k
theorem own_ior (X : own_A l Z own cb ml n0 p e R s m args below meth c T h locs cells slots) {x y z : Int32} (hd : decode cb pc = .ok (.ior, 1)) (hp : pc + 1 = pc') (hz : x ||| y = z) (k : own_E p e below G (T.setTop (mkF m pc' Ls (.int z :: S)))) : own_E p e below G (T.setTop (mkF m pc Ls (.int y :: .int x :: S))) := by
  subst hp; subst hz; exact own_go (fun _ => XS.ior X.1.here X.2.1 rfl (hb X.2.2.2.1 hd) rfl) k
theorem own_ixor (X : own_A l Z own cb ml n0 p e R s m args below meth c T h locs cells slots) {x y z : Int32} (hd : decode cb pc = .ok (.ixor, 1)) (hp : pc + 1 = pc') (hz : x ^^^ y = z) (k : own_E p e below G (T.setTop (mkF m pc' Ls (.int z :: S)))) : own_E p e below G (T.setTop (mkF m pc Ls (.int y :: .int x :: S))) := by
  subst hp; subst hz; exact own_go (fun _ => XS.ixor X.1.here X.2.1 rfl (hb X.2.2.2.1 hd) rfl) k
theorem own_ishl (X : own_A l Z own cb ml n0 p e R s m args below meth c T h locs cells slots) {x y z : Int32} (hd : decode cb pc = .ok (.ishl, 1)) (hp : pc + 1 = pc') (hz : x <<< (y &&& 31) = z) (k : own_E p e below G (T.setTop (mkF m pc' Ls (.int z :: S)))) : own_E p e below G (T.setTop (mkF m pc Ls (.int y :: .int x :: S))) := by
  subst hp; subst hz; exact own_go (fun _ => XS.ishl X.1.here X.2.1 rfl (hb X.2.2.2.1 hd) rfl) k
theorem own_ishr (X : own_A l Z own cb ml n0 p e R s m args below meth c T h locs cells slots) {x y z : Int32} (hd : decode cb pc = .ok (.ishr, 1)) (hp : pc + 1 = pc') (hz : x >>> (y &&& 31) = z) (k : own_E p e below G (T.setTop (mkF m pc' Ls (.int z :: S)))) : own_E p e below G (T.setTop (mkF m pc Ls (.int y :: .int x :: S))) := by
  subst hp; subst hz; exact own_go (fun _ => XS.ishr X.1.here X.2.1 rfl (hb X.2.2.2.1 hd) rfl) k
theorem own_iushr (X : own_A l Z own cb ml n0 p e R s m args below meth c T h locs cells slots) {x y z : Int32} (hd : decode cb pc = .ok (.iushr, 1)) (hp : pc + 1 = pc') (hz : (x.toUInt32 >>> (y &&& 31).toUInt32).toInt32 = z) (k : own_E p e below G (T.setTop (mkF m pc' Ls (.int z :: S)))) : own_E p e below G (T.setTop (mkF m pc Ls (.int y :: .int x :: S))) := by
  subst hp; subst hz; exact own_go (fun _ => XS.iushr X.1.here X.2.1 rfl (hb X.2.2.2.1 hd) rfl) k
theorem own_ladd (X : own_A l Z own cb ml n0 p e R s m args below meth c T h locs cells slots) {x y z : Int64} (hd : decode cb pc = .ok (.ladd, 1)) (hp : pc + 1 = pc') (hz : x + y = z) (k : own_E p e below G (T.setTop (mkF m pc' Ls (.long z :: S)))) : own_E p e below G (T.setTop (mkF m pc Ls (.long y :: .long x :: S))) := by
  subst hp; subst hz; exact own_go (fun _ => XS.ladd X.1.here X.2.1 rfl (hb X.2.2.2.1 hd) rfl) k
theorem own_lsub (X : own_A l Z own cb ml n0 p e R s m args below meth c T h locs cells slots) {x y z : Int64} (hd : decode cb pc = .ok (.lsub, 1)) (hp : pc + 1 = pc') (hz : x - y = z) (k : own_E p e below G (T.setTop (mkF m pc' Ls (.long z :: S)))) : own_E p e below G (T.setTop (mkF m pc Ls (.long y :: .long x :: S))) := by
  subst hp; subst hz; exact own_go (fun _ => XS.lsub X.1.here X.2.1 rfl (hb X.2.2.2.1 hd) rfl) k
theorem own_lmul (X : own_A l Z own cb ml n0 p e R s m args below meth c T h locs cells slots) {x y z : Int64} (hd : decode cb pc = .ok (.lmul, 1)) (hp : pc + 1 = pc') (hz : x * y = z) (k : own_E p e below G (T.setTop (mkF m pc' Ls (.long z :: S)))) : own_E p e below G (T.setTop (mkF m pc Ls (.long y :: .long x :: S))) := by
  subst hp; subst hz; exact own_go (fun _ => XS.lmul X.1.here X.2.1 rfl (hb X.2.2.2.1 hd) rfl) k
theorem own_land (X : own_A l Z own cb ml n0 p e R s m args below meth c T h locs cells slots) {x y z : Int64} (hd : decode cb pc = .ok (.land, 1)) (hp : pc + 1 = pc') (hz : x &&& y = z) (k : own_E p e below G (T.setTop (mkF m pc' Ls (.long z :: S)))) : own_E p e below G (T.setTop (mkF m pc Ls (.long y :: .long x :: S))) := by
  subst hp; subst hz; exact own_go (fun _ => XS.land X.1.here X.2.1 rfl (hb X.2.2.2.1 hd) rfl) k
theorem own_lor (X : own_A l Z own cb ml n0 p e R s m args below meth c T h locs cells slots) {x y z : Int64} (hd : decode cb pc = .ok (.lor, 1)) (hp : pc + 1 = pc') (hz : x ||| y = z) (k : own_E p e below G (T.setTop (mkF m pc' Ls (.long z :: S)))) : own_E p e below G (T.setTop (mkF m pc Ls (.long y :: .long x :: S))) := by
  subst hp; subst hz; exact own_go (fun _ => XS.lor X.1.here X.2.1 rfl (hb X.2.2.2.1 hd) rfl) k
theorem own_lxor (X : own_A l Z own cb ml n0 p e R s m args below meth c T h locs cells slots) {x y z : Int64} (hd : decode cb pc = .ok (.lxor, 1)) (hp : pc + 1 = pc') (hz : x ^^^ y = z) (k : own_E p e below G (T.setTop (mkF m pc' Ls (.long z :: S)))) : own_E p e below G (T.setTop (mkF m pc Ls (.long y :: .long x :: S))) := by
  subst hp; subst hz; exact own_go (fun _ => XS.lxor X.1.here X.2.1 rfl (hb X.2.2.2.1 hd) rfl) k
theorem own_lshl (X : own_A l Z own cb ml n0 p e R s m args below meth c T h locs cells slots) {x z : Int64} {y : Int32} (hd : decode cb pc = .ok (.lshl, 1)) (hp : pc + 1 = pc') (hz : x <<< (y &&& 0x3f).toInt64 = z) (k : own_E p e below G (T.setTop (mkF m pc' Ls (.long z :: S)))) : own_E p e below G (T.setTop (mkF m pc Ls (.int y :: .long x :: S))) := by
  subst hp; subst hz; exact own_go (fun _ => XS.lshl X.1.here X.2.1 rfl (hb X.2.2.2.1 hd) rfl) k
theorem own_lshr (X : own_A l Z own cb ml n0 p e R s m args below meth c T h locs cells slots) {x z : Int64} {y : Int32} (hd : decode cb pc = .ok (.lshr, 1)) (hp : pc + 1 = pc') (hz : x >>> (y &&& 0x3f).toInt64 = z) (k : own_E p e below G (T.setTop (mkF m pc' Ls (.long z :: S)))) : own_E p e below G (T.setTop (mkF m pc Ls (.int y :: .long x :: S))) := by
  subst hp; subst hz; exact own_go (fun _ => XS.lshr X.1.here X.2.1 rfl (hb X.2.2.2.1 hd) rfl) k
theorem own_lushr (X : own_A l Z own cb ml n0 p e R s m args below meth c T h locs cells slots) {x z : Int64} {y : Int32} (hd : decode cb pc = .ok (.lushr, 1)) (hp : pc + 1 = pc') (hz : (x.toUInt64 >>> (y &&& 0x3f).toInt64.toUInt64).toInt64 = z) (k : own_E p e below G (T.setTop (mkF m pc' Ls (.long z :: S)))) : own_E p e below G (T.setTop (mkF m pc Ls (.int y :: .long x :: S))) := by
  subst hp; subst hz; exact own_go (fun _ => XS.lushr X.1.here X.2.1 rfl (hb X.2.2.2.1 hd) rfl) k
theorem own_idiv (X : own_A l Z own cb ml n0 p e R s m args below meth c T h locs cells slots) {x y z : Int32} (hd : decode cb pc = .ok (.idiv, 1)) (hp : pc + 1 = pc') (hy : y ≠ 0) (hz : x / y = z) (k : own_E p e below G (T.setTop (mkF m pc' Ls (.int z :: S)))) : own_E p e below G (T.setTop (mkF m pc Ls (.int y :: .int x :: S))) := by
  subst hp; subst hz; exact own_go (fun _ => XS.idiv X.1.here X.2.1 rfl (hb X.2.2.2.1 hd) rfl hy) k
theorem own_irem (X : own_A l Z own cb ml n0 p e R s m args below meth c T h locs cells slots) {x y z : Int32} (hd : decode cb pc = .ok (.irem, 1)) (hp : pc + 1 = pc') (hy : y ≠ 0) (hz : x % y = z) (k : own_E p e below G (T.setTop (mkF m pc' Ls (.int z :: S)))) : own_E p e below G (T.setTop (mkF m pc Ls (.int y :: .int x :: S))) := by
  subst hp; subst hz; exact own_go (fun _ => iremM X.1 X.2.1 rfl (hb X.2.2.2.1 hd) rfl hy) k
theorem own_ldiv (X : own_A l Z own cb ml n0 p e R s m args below meth c T h locs cells slots) {x y z : Int64} (hd : decode cb pc = .ok (.ldiv, 1)) (hp : pc + 1 = pc') (hy : y ≠ 0) (hz : x / y = z) (k : own_E p e below G (T.setTop (mkF m pc' Ls (.long z :: S)))) : own_E p e below G (T.setTop (mkF m pc Ls (.long y :: .long x :: S))) := by
  subst hp; subst hz; exact own_go (fun _ => XS.ldiv X.1.here X.2.1 rfl (hb X.2.2.2.1 hd) rfl hy) k
theorem own_lrem (X : own_A l Z own cb ml n0 p e R s m args below meth c T h locs cells slots) {x y z : Int64} (hd : decode cb pc = .ok (.lrem, 1)) (hp : pc + 1 = pc') (hy : y ≠ 0) (hz : x - (x / y) * y = z) (k : own_E p e below G (T.setTop (mkF m pc' Ls (.long z :: S)))) : own_E p e below G (T.setTop (mkF m pc Ls (.long y :: .long x :: S))) := by
  subst hp; subst hz; exact own_go (fun _ => XS.lrem X.1.here X.2.1 rfl (hb X.2.2.2.1 hd) rfl hy) k
theorem own_ineg (X : own_A l Z own cb ml n0 p e R s m args below meth c T h locs cells slots) {x : Int32} {z : Int32} (hd : decode cb pc = .ok (.ineg, 1)) (hp : pc + 1 = pc') (hz : -x = z) (k : own_E p e below G (T.setTop (mkF m pc' Ls (.int z :: S)))) : own_E p e below G (T.setTop (mkF m pc Ls (.int x :: S))) := by
  subst hp; subst hz; exact own_go (fun _ => XS.ineg X.1.here X.2.1 rfl (hb X.2.2.2.1 hd) rfl) k
theorem own_lneg (X : own_A l Z own cb ml n0 p e R s m args below meth c T h locs cells slots) {x : Int64} {z : Int64} (hd : decode cb pc = .ok (.lneg, 1)) (hp : pc + 1 = pc') (hz : -x = z) (k : own_E p e below G (T.setTop (mkF m pc' Ls (.long z :: S)))) : own_E p e below G (T.setTop (mkF m pc Ls (.long x :: S))) := by
  subst hp; subst hz; exact own_go (fun _ => XS.lneg X.1.here X.2.1 rfl (hb X.2.2.2.1 hd) rfl) k
theorem own_i2l (X : own_A l Z own cb ml n0 p e R s m args below meth c T h locs cells slots) {x : Int32} {z : Int64} (hd : decode cb pc = .ok (.i2l, 1)) (hp : pc + 1 = pc') (hz : x.toInt64 = z) (k : own_E p e below G (T.setTop (mkF m pc' Ls (.long z :: S)))) : own_E p e below G (T.setTop (mkF m pc Ls (.int x :: S))) := by
  subst hp; subst hz; exact own_go (fun _ => XS.i2l X.1.here X.2.1 rfl (hb X.2.2.2.1 hd) rfl) k
theorem own_l2i (X : own_A l Z own cb ml n0 p e R s m args below meth c T h locs cells slots) {x : Int64} {z : Int32} (hd : decode cb pc = .ok (.l2i, 1)) (hp : pc + 1 = pc') (hz : x.toInt32 = z) (k : own_E p e below G (T.setTop (mkF m pc' Ls (.int z :: S)))) : own_E p e below G (T.setTop (mkF m pc Ls (.long x :: S))) := by
  subst hp; subst hz; exact own_go (fun _ => XS.l2i X.1.here X.2.1 rfl (hb X.2.2.2.1 hd) rfl) k
theorem own_i2b (X : own_A l Z own cb ml n0 p e R s m args below meth c T h locs cells slots) {x : Int32} {z : Int32} (hd : decode cb pc = .ok (.i2b, 1)) (hp : pc + 1 = pc') (hz : x.toInt8.toInt32 = z) (k : own_E p e below G (T.setTop (mkF m pc' Ls (.int z :: S)))) : own_E p e below G (T.setTop (mkF m pc Ls (.int x :: S))) := by
  subst hp; subst hz; exact own_go (fun _ => XS.i2b X.1.here X.2.1 rfl (hb X.2.2.2.1 hd) rfl) k
theorem own_i2s (X : own_A l Z own cb ml n0 p e R s m args below meth c T h locs cells slots) {x : Int32} {z : Int32} (hd : decode cb pc = .ok (.i2s, 1)) (hp : pc + 1 = pc') (hz : x.toInt16.toInt32 = z) (k : own_E p e below G (T.setTop (mkF m pc' Ls (.int z :: S)))) : own_E p e below G (T.setTop (mkF m pc Ls (.int x :: S))) := by
  subst hp; subst hz; exact own_go (fun _ => XS.i2s X.1.here X.2.1 rfl (hb X.2.2.2.1 hd) rfl) k
theorem own_i2c (X : own_A l Z own cb ml n0 p e R s m args below meth c T h locs cells slots) {x : Int32} {z : Int32} (hd : decode cb pc = .ok (.i2c, 1)) (hp : pc + 1 = pc') (hz : x.toUInt32.toUInt16.toUInt32.toInt32 = z) (k : own_E p e below G (T.setTop (mkF m pc' Ls (.int z :: S)))) : own_E p e below G (T.setTop (mkF m pc Ls (.int x :: S))) := by
  subst hp; subst hz; exact own_go (fun _ => XS.i2c X.1.here X.2.1 rfl (hb X.2.2.2.1 hd) rfl) k
theorem own_iinc (X : own_A l Z own cb ml n0 p e R s m args below meth c T h locs cells slots) {i : Nat} {cst : Int} {x z : Int32} (hd : decode cb pc = .ok (.iinc i cst, 3)) (hp : pc + 3 = pc') (hl : Ls[i]? = some (.val (.int x))) (hz : x + Int32.ofInt cst = z) (hl' : storeLocals Ls i (.int z) = some Ls') (k : own_E p e below G (T.setTop (mkF m pc' Ls' S))) : own_E p e below G (T.setTop (mkF m pc Ls S)) := by
  subst hp; subst hz; exact own_go (fun _ => XS.iinc X.1.here X.2.1 rfl (hb X.2.2.2.1 hd) hl hl') k
theorem own_dup (X : own_A l Z own cb ml n0 p e R s m args below meth c T h locs cells slots) {v : Value} (hd : decode cb pc = .ok (.dup, 1)) (hp : pc + 1 = pc') (hc : v.category = 1) (k : own_E p e below G (T.setTop (mkF m pc' Ls (v :: v :: S)))) : own_E p e below G (T.setTop (mkF m pc Ls (v :: S))) := by
  subst hp; exact own_go (fun _ => XS.dup X.1.here X.2.1 rfl (hb X.2.2.2.1 hd) rfl hc) k
theorem own_pop (X : own_A l Z own cb ml n0 p e R s m args below meth c T h locs cells slots) {v : Value} (hd : decode cb pc = .ok (.pop, 1)) (hp : pc + 1 = pc') (hc : v.category = 1) (k : own_E p e below G (T.setTop (mkF m pc' Ls S))) : own_E p e below G (T.setTop (mkF m pc Ls (v :: S))) := by
  subst hp; exact own_go (fun _ => XS.pop X.1.here X.2.1 rfl (hb X.2.2.2.1 hd) rfl hc) k
theorem own_goto (X : own_A l Z own cb ml n0 p e R s m args below meth c T h locs cells slots) {o : Int} (hd : decode cb pc = .ok (.goto o, 3)) (ho : 0 ≤ (pc : Int) + o) (hp : ((pc : Int) + o).toNat = pc') (k : own_E p e below G (T.setTop (mkF m pc' Ls S))) : own_E p e below G (T.setTop (mkF m pc Ls S)) :=
  own_go (fun _ => XS.goto X.1.here X.2.1 rfl rfl (hb X.2.2.2.1 hd) ho hp) k
theorem own_icmpY (X : own_A l Z own cb ml n0 p e R s m args below meth c T h locs cells slots) {cd : ClassFile.Cond} {o : Int} {x y : Int32} (hd : decode cb pc = .ok (.if_icmp cd o, 3)) (hc : if_icmp.holds cd x y = true) (ho : 0 ≤ (pc : Int) + o) (hp : ((pc : Int) + o).toNat = pc') (k : own_E p e below G (T.setTop (mkF m pc' Ls S))) : own_E p e below G (T.setTop (mkF m pc Ls (.int y :: .int x :: S))) :=
  own_go (fun _ => XS.icmpYes X.1.here X.2.1 rfl rfl (hb X.2.2.2.1 hd) rfl hc ho hp) k
theorem own_icmpN (X : own_A l Z own cb ml n0 p e R s m args below meth c T h locs cells slots) {cd : ClassFile.Cond} {o : Int} {x y : Int32} (hd : decode cb pc = .ok (.if_icmp cd o, 3)) (hc : if_icmp.holds cd x y = false) (hp : pc + 3 = pc') (k : own_E p e below G (T.setTop (mkF m pc' Ls S))) : own_E p e below G (T.setTop (mkF m pc Ls (.int y :: .int x :: S))) := by
  subst hp; exact own_go (fun _ => XS.icmpNo X.1.here X.2.1 rfl (hb X.2.2.2.1 hd) rfl hc) k
theorem own_ifY (X : own_A l Z own cb ml n0 p e R s m args below meth c T h locs cells slots) {cd : ClassFile.Cond} {o : Int} {x : Int32} (hd : decode cb pc = .ok (.ifCond cd o, 3)) (hc : if_icmp.holds cd x 0 = true) (ho : 0 ≤ (pc : Int) + o) (hp : ((pc : Int) + o).toNat = pc') (k : own_E p e below G (T.setTop (mkF m pc' Ls S))) : own_E p e below G (T.setTop (mkF m pc Ls (.int x :: S))) :=
  own_go (fun _ => XS.ifYes X.1.here X.2.1 rfl rfl (hb X.2.2.2.1 hd) rfl ((if0 _ _).trans hc) ho hp) k
theorem own_ifN (X : own_A l Z own cb ml n0 p e R s m args below meth c T h locs cells slots) {cd : ClassFile.Cond} {o : Int} {x : Int32} (hd : decode cb pc = .ok (.ifCond cd o, 3)) (hc : if_icmp.holds cd x 0 = false) (hp : pc + 3 = pc') (k : own_E p e below G (T.setTop (mkF m pc' Ls S))) : own_E p e below G (T.setTop (mkF m pc Ls (.int x :: S))) := by
  subst hp; exact own_go (fun _ => XS.ifNo X.1.here X.2.1 rfl (hb X.2.2.2.1 hd) rfl ((if0 _ _).trans hc)) k
theorem own_ljY (X : own_A l Z own cb ml n0 p e R s m args below meth c T h locs cells slots) {cd : ClassFile.Cond} {o : Int} {x y : Int64} {pc1 : Nat} (hd1 : decode cb pc = .ok (.lcmp, 1)) (h1 : pc + 1 = pc1) (hd : decode cb pc1 = .ok (.ifCond cd o, 3)) (hc : if_icmp.holds cd (lcmpW x y) 0 = true) (ho : 0 ≤ (pc1 : Int) + o) (hp : ((pc1 : Int) + o).toNat = pc') (k : own_E p e below G (T.setTop (mkF m pc' Ls S))) : own_E p e below G (T.setTop (mkF m pc Ls (.long y :: .long x :: S))) := by
  subst h1
  exact own_go (fun _ k => XS.lcmp X.1.here X.2.1 rfl (hb X.2.2.2.1 hd1) rfl (XS.ifYes X.1.here X.2.1 rfl rfl (hb X.2.2.2.1 hd) rfl ((if0 _ _).trans hc) ho hp k)) k
theorem own_ljN (X : own_A l Z own cb ml n0 p e R s m args below meth c T h locs cells slots) {cd : ClassFile.Cond} {o : Int} {x y : Int64} {pc1 : Nat} (hd1 : decode cb pc = .ok (.lcmp, 1)) (h1 : pc + 1 = pc1) (hd : decode cb pc1 = .ok (.ifCond cd o, 3)) (hc : if_icmp.holds cd (lcmpW x y) 0 = false) (hp : pc1 + 3 = pc') (k : own_E p e below G (T.setTop (mkF m pc' Ls S))) : own_E p e below G (T.setTop (mkF m pc Ls (.long y :: .long x :: S))) := by
  subst h1; subst hp
  exact own_go (fun _ k => XS.lcmp X.1.here X.2.1 rfl (hb X.2.2.2.1 hd1) rfl (XS.ifNo X.1.here X.2.1 rfl (hb X.2.2.2.1 hd) rfl ((if0 _ _).trans hc) k)) k
theorem own_tltL {x y : Int64} (q : x < y) : if_icmp.holds .lt (lcmpW x y) 0 = true ∧ if_icmp.holds .ge (lcmpW x y) 0 = false ∧ if_icmp.holds .gt (lcmpW y x) 0 = true ∧ if_icmp.holds .le (lcmpW y x) 0 = false :=
  ⟨(tlt ((lw_lt x y).mpr q)).1, (tlt ((lw_lt x y).mpr q)).2.1, (tlt ((lw_gt y x).mpr q)).2.2.1, (tlt ((lw_gt y x).mpr q)).2.2.2⟩
theorem own_fltL {x y : Int64} (q : ¬ x < y) : if_icmp.holds .lt (lcmpW x y) 0 = false ∧ if_icmp.holds .ge (lcmpW x y) 0 = true ∧ if_icmp.holds .gt (lcmpW y x) 0 = false ∧ if_icmp.holds .le (lcmpW y x) 0 = true :=
  ⟨(flt (fun z => q ((lw_lt x y).mp z))).1, (flt (fun z => q ((lw_lt x y).mp z))).2.1, (flt (fun z => q ((lw_gt y x).mp z))).2.2.1, (flt (fun z => q ((lw_gt y x).mp z))).2.2.2⟩
theorem own_teqL {x y : Int64} (q : x = y) : if_icmp.holds .eq (lcmpW x y) 0 = true ∧ if_icmp.holds .ne (lcmpW x y) 0 = false := teq ((lw_eq x y).mpr q)
theorem own_feqL {x y : Int64} (q : ¬ x = y) : if_icmp.holds .eq (lcmpW x y) 0 = false ∧ if_icmp.holds .ne (lcmpW x y) 0 = true := feq (fun z => q ((lw_eq x y).mp z))
theorem own_ifnullY (X : own_A l Z own cb ml n0 p e R s m args below meth c T h locs cells slots) {o : Int} (hd : decode cb pc = .ok (.ifnull o, 3)) (ho : 0 ≤ (pc : Int) + o) (hp : ((pc : Int) + o).toNat = pc') (k : own_E p e below G (T.setTop (mkF m pc' Ls S))) : own_E p e below G (T.setTop (mkF m pc Ls (.null :: S))) :=
  own_go (fun _ => XS.ifnullYes X.1.here X.2.1 rfl rfl (hb X.2.2.2.1 hd) rfl ho hp) k
theorem own_ifnullN (X : own_A l Z own cb ml n0 p e R s m args below meth c T h locs cells slots) {o : Int} {b : Addr} (hd : decode cb pc = .ok (.ifnull o, 3)) (hp : pc + 3 = pc') (k : own_E p e below G (T.setTop (mkF m pc' Ls S))) : own_E p e below G (T.setTop (mkF m pc Ls (.ref b :: S))) := by
  subst hp; exact own_go (fun _ => XS.ifnullNo X.1.here X.2.1 rfl (hb X.2.2.2.1 hd) rfl) k
theorem own_ldc (X : own_A l Z own cb ml n0 p e R s m args below meth c T h locs cells slots) {i : Nat} {v : Int32} (w : (Jvm.Cond.constant own i v).before a0 Z = true) (hd : decode cb pc = .ok (.ldc i, 2)) (hp : pc + 2 = pc') (k : own_E p e below G (T.setTop (mkF m pc' Ls (.int v :: S)))) : own_E p e below G (T.setTop (mkF m pc Ls S)) := by
  subst hp; exact own_go (X.1.ldcInt X.2.1 X.2.2.2.2.2.1 (mvT X.2.2.1 w) rfl (hb X.2.2.2.1 hd)) k
theorem own_ldc2 (X : own_A l Z own cb ml n0 p e R s m args below meth c T h locs cells slots) {i : Nat} {v : Int64} (w : (Jvm.Cond.constantLong own i v).before a0 Z = true) (hd : decode cb pc = .ok (.ldc2_w i, 3)) (hp : pc + 3 = pc') (k : own_E p e below G (T.setTop (mkF m pc' Ls (.long v :: S)))) : own_E p e below G (T.setTop (mkF m pc Ls S)) := by
  subst hp; exact own_go (X.1.ldc2Long X.2.1 X.2.2.2.2.2.1 (mvT X.2.2.1 w) rfl (hb X.2.2.2.1 hd)) k
theorem own_callS (X : own_A l Z own cb ml n0 p e R s m args below meth c T h locs cells slots) {y : MethodName} {cb' : ByteArray} {ml' : Nat} {ret' : Option FieldType} {rm : Room} {argsL st : List Value} {Q : Option Value → Heap → Prop} {i : Nat} (hC : own_Con l Z y cb' ml' ret' rm argsL.toArray h n0 Q)
    (w1 : (Jvm.Cond.methodLink own i y).before a0 Z = true) (w2 : (Jvm.Cond.static y).before a0 Z = true) (w3 : (Jvm.Cond.initialized y.cls).before a0 Z = true) (w4 : (Jvm.Cond.code y cb' ml' ret').before a0 Z = true) (hy : y.cls ≠ "java/lang/invoke/MethodHandle" ∧ y.cls ≠ "java/lang/invoke/VarHandle")
    (hf : rm.frames + 1 ≤ R.frames) (W : Nat) (hl : W + (ml' + 11) + rm.locals ≤ R.locals) (hls : Ls.size = ml) {ps : List FieldType} {r : Option FieldType} (hpd : parseMethodDescriptor y.desc = some ⟨ps, r⟩) (hlen : argsL.length = ps.length) (hst : st = argsL.reverse ++ S) (hW : (S.map fun v => v.category).sum ≤ W) (hcl : cells + rm.cells ≤ R.cells) (hsl : slots + rm.slots ≤ R.slots)
    (hd : decode cb pc = .ok (.invokestatic i, 3)) (hp : pc + 3 = pc') (k : ∀ T' h' locs' v, own_A l Z own cb ml n0 p e R s m args below meth c T' h' locs' (cells + rm.cells) (slots + rm.slots) → Q v h' → own_E p e below G (T'.setTop (mkF m pc' Ls (v.toList ++ S)))) : own_E p e below G (T.setTop (mkF m pc Ls st)) := by
  obtain ⟨X, hx, hZ, hby, hml, hown, eT, N, hsz, hlk⟩ := X
  subst hp
  obtain ⟨v, _, ⟨T', L', k', n'⟩, -, X', ⟨Lc, hQ, q1, q2, q3⟩, stp⟩ := Jvm.LawKit.callS X hx (y := y) hown (mvT hZ w1) (mvT hZ w2) (mvT hZ w3) (mvT hZ w4) hy (backOf (Q := fun v h L => Q v h ∧ Fr n0 L ∧ n0 ≤ h.size) (W := W) (hC []) hZ w4 w3 hf hl) (g := mkF m pc Ls st) rfl (by rw [hml]; exact hls) (argsL := argsL) (rest := S) (lenOf hpd hlen) hst (by show 2 * 0 + _ ≤ _; omega) (hb hby hd) (fun _ _ => ⟨rfl, eT, hcl, hsl⟩)
  dsimp only [Pt.U, Pt.locs, Pt.cells, Pt.slots] at X' q1 q2 q3 stp hQ
  subst q1 q2 q3
  exact own_go stp (k _ _ _ _ ⟨X', hx, hZ, hby, hml, hown, rfl, N.app hQ.2.1, hQ.2.2, hlk⟩ hQ.1)
theorem own_callI (X : own_A l Z own cb ml n0 p e R s m args below meth c T h locs cells slots) {y : MethodName} {cb' : ByteArray} {ml' : Nat} {rm : Room} {a : Addr} {argsL st : List Value} {Q : Option Value → Heap → Prop} {i : Nat} (hC : own_Con l Z y cb' ml' none rm (.ref a :: argsL).toArray h n0 Q) (hy1 : y.name = "<init>")
    (w1 : (Jvm.Cond.methodLink own i y).before a0 Z = true) (w2 : (Jvm.Cond.instanceMethod y).before a0 Z = true) (w3 : (Jvm.Cond.initialized y.cls).before a0 Z = true) (w4 : (Jvm.Cond.code y cb' ml' none).before a0 Z = true) (hy : y.cls ≠ "java/lang/invoke/MethodHandle" ∧ y.cls ≠ "java/lang/invoke/VarHandle")
    (hf : rm.frames + 1 ≤ R.frames) (W : Nat) (hl : W + (ml' + 11) + rm.locals ≤ R.locals) (hls : Ls.size = ml) {ps : List FieldType} {r : Option FieldType} (hpd : parseMethodDescriptor y.desc = some ⟨ps, r⟩) (hlen : argsL.length = ps.length) (hst : st = argsL.reverse ++ .ref a :: S) (hW : (S.map fun v => v.category).sum ≤ W) (hcl : cells + rm.cells ≤ R.cells) (hsl : slots + rm.slots ≤ R.slots)
    (hd : decode cb pc = .ok (.invokespecial i, 3)) (hp : pc + 3 = pc') (k : ∀ T' h' locs' v, own_A l Z own cb ml n0 p e R s m args below meth c T' h' locs' (cells + rm.cells) (slots + rm.slots) → Q v h' → own_E p e below G (T'.setTop (mkF m pc' Ls (v.toList ++ S)))) : own_E p e below G (T.setTop (mkF m pc Ls st)) := by
  obtain ⟨X, hx, hZ, hby, hml, hown, eT, N, hsz, hlk⟩ := X
  subst hp
  obtain ⟨v, _, ⟨T', L', k', n'⟩, -, X', ⟨Lc, hQ, q1, q2, q3⟩, stp⟩ := X.specialBack hx (y := y) hy1 hown (mvT hZ w1) (mvT hZ w2) (mvT hZ w4) hy (backOf (Q := fun v h L => Q v h ∧ Fr n0 L ∧ n0 ≤ h.size) (W := W) (hC []) hZ w4 w3 hf hl) (g := mkF m pc Ls st) rfl (by rw [hml]; exact hls) (Steps.refl _) (a := a) (argsL := argsL) (rest := S) (lenOf hpd hlen) hst (by show 2 * 0 + _ ≤ _; omega) (hb hby hd) (fun _ _ => ⟨rfl, eT, hcl, hsl⟩)
  dsimp only [Pt.U, Pt.locs, Pt.cells, Pt.slots] at X' q1 q2 q3 stp hQ
  subst q1 q2 q3
  exact own_go (fun _ z => stp.trans z) (k _ _ _ _ ⟨X', hx, hZ, hby, hml, hown, rfl, N.app hQ.2.1, hQ.2.2, hlk⟩ hQ.1)
theorem own_callV (X : own_A l Z own cb ml n0 p e R s m args below meth c T h locs cells slots) {y : MethodName} {C : String} {cb' : ByteArray} {ml' : Nat} {ret' : Option FieldType} {rm : Room} {a : Addr} {argsL st : List Value} {Q : Option Value → Heap → Prop} {i : Nat} (hC : own_Con l Z y cb' ml' ret' rm (.ref a :: argsL).toArray h n0 Q) (E : Exa Z h a C)
    (w1 : (Jvm.Cond.methodLink own i y).before a0 Z = true) (w2 : (Jvm.Cond.declares y).before a0 Z = true) (w5 : (Jvm.Cond.selects C y y).before a0 Z = true) (w6 : (Jvm.Cond.instanceMethod y).before a0 Z = true) (w3 : (Jvm.Cond.initialized y.cls).before a0 Z = true) (w4 : (Jvm.Cond.code y cb' ml' ret').before a0 Z = true) (hy : y.cls ≠ "java/lang/invoke/MethodHandle" ∧ y.cls ≠ "java/lang/invoke/VarHandle")
    (hf : rm.frames + 1 ≤ R.frames) (W : Nat) (hl : W + (ml' + 11) + rm.locals ≤ R.locals) (hls : Ls.size = ml) {ps : List FieldType} {r : Option FieldType} (hpd : parseMethodDescriptor y.desc = some ⟨ps, r⟩) (hlen : argsL.length = ps.length) (hst : st = argsL.reverse ++ .ref a :: S) (hW : (S.map fun v => v.category).sum ≤ W) (hcl : cells + rm.cells ≤ R.cells) (hsl : slots + rm.slots ≤ R.slots)
    (hd : decode cb pc = .ok (.invokevirtual i, 3)) (hp : pc + 3 = pc') (hC0 : y.cls = C) (k : ∀ T' h' locs' v, own_A l Z own cb ml n0 p e R s m args below meth c T' h' locs' (cells + rm.cells) (slots + rm.slots) → Q v h' → own_E p e below G (T'.setTop (mkF m pc' Ls (v.toList ++ S)))) : own_E p e below G (T.setTop (mkF m pc Ls st)) := by
  obtain ⟨X, hx, hZ, hby, hml, hown, eT, N, hsz, hlk⟩ := X
  subst hp; subst hC0
  obtain ⟨cq, kq, qa, qb, qc⟩ := isOf hZ eT E
  obtain ⟨v, _, ⟨T', L', k', n'⟩, -, X', ⟨Lc, hQ, q1, q2, q3⟩, stp⟩ := X.virtualBack hx (y := y) (z := y) hown (mvT hZ w1) (mvT hZ w2) (notFace_of_selects (args := #[]) (mvT hZ w5)) (mvT hZ w5) (mvT hZ w6) hy (backOf (Q := fun v h L => Q v h ∧ Fr n0 L ∧ n0 ≤ h.size) (W := W) (hC []) hZ w4 w3 hf hl) qa qc (g := mkF m pc Ls st) rfl (by rw [hml]; exact hls) (Steps.refl _) (argsL := argsL) (rest := S) (lenOf hpd hlen) hst (by show 2 * 0 + _ ≤ _; omega) (hb hby hd) (fun _ _ => ⟨rfl, eT, hcl, hsl⟩)
  dsimp only [Pt.U, Pt.locs, Pt.cells, Pt.slots] at X' q1 q2 q3 stp hQ
  subst q1 q2 q3
  exact own_go (fun _ z => stp.trans z) (k _ _ _ _ ⟨X', hx, hZ, hby, hml, hown, rfl, N.app hQ.2.1, hQ.2.2, hlk⟩ hQ.1)
theorem own_initO (X : own_A l Z own cb ml n0 p e R s m args below meth c T h locs cells slots) {i : Nat} {a : Addr} (w1 : (Jvm.Cond.methodLink own i Lib.objectInit).before a0 Z = true) (w2 : (Jvm.Cond.instanceMethod Lib.objectInit).before a0 Z = true) (w3 : (Jvm.Cond.code Lib.objectInit ⟨#[0xb1]⟩ 1 none).before a0 Z = true) (hls : Ls.size = ml) (hf : 1 ≤ R.frames) (W : Nat) (hW : (S.map fun v => v.category).sum ≤ W) (hl : W + 12 ≤ R.locals)
    (hd : decode cb pc = .ok (.invokespecial i, 3)) (hp : pc + 3 = pc') (k : ∀ T', own_A l Z own cb ml n0 p e R s m args below meth c T' h locs cells slots → own_E p e below G (T'.setTop (mkF m pc' Ls S))) : own_E p e below G (T.setTop (mkF m pc Ls (.ref a :: S))) := by
  obtain ⟨X, hx, hZ, hby, hml, hown, eT, N, hsz, hlk⟩ := X
  subst hp
  obtain ⟨T', X', eT', stp⟩ := initO X hx hZ hown w1 w2 w3 eT (g := mkF m pc Ls (.ref a :: S)) rfl (by rw [hml]; exact hls) rfl (hb hby hd) hf (W := W) (by show 2 * 0 + _ ≤ _; omega) hl
  exact own_go stp (k _ ⟨X', hx, hZ, hby, hml, hown, eT', N, hsz, hlk⟩)
theorem own_getF (X : own_A l Z own cb ml n0 p e R s m args below meth c T h locs cells slots) {i : Nat} {a : Addr} {C f d : String} {v : Value} (w1 : (Jvm.Cond.fieldLink own i C f d).before a0 Z = true) (F : Fld Z h a C f d v)
    (hd : decode cb pc = .ok (.getfield i, 3)) (hp : pc + 3 = pc') (k : ∀ T', own_A l Z own cb ml n0 p e R s m args below meth c T' h locs cells slots → own_E p e below G (T'.setTop (mkF m pc' Ls (v :: S)))) : own_E p e below G (T.setTop (mkF m pc Ls (.ref a :: S))) := by
  obtain ⟨X, hx, hZ, hby, hml, hown, eT, N, hsz, hlk⟩ := X
  subst hp
  obtain ⟨T', X', eT', stp⟩ := getF X hx hZ hown (host := "") (Or.inl w1) Via.refl eT F (g := mkF m pc Ls (.ref a :: S)) rfl rfl (hb hby hd)
  exact own_go stp (k _ ⟨X', hx, hZ, hby, hml, hown, eT', N, hsz, hlk⟩)
theorem own_getS (X : own_A l Z own cb ml n0 p e R s m args below meth c T h locs cells slots) {i : Nat} {C f d : String} {v : Value} (w1 : (Jvm.Cond.fieldLink own i C f d).before a0 Z = true) (F : Sta Z h C f d v)
    (hd : decode cb pc = .ok (.getstatic i, 3)) (hp : pc + 3 = pc') (k : ∀ T', own_A l Z own cb ml n0 p e R s m args below meth c T' h locs cells slots → own_E p e below G (T'.setTop (mkF m pc' Ls (v :: S)))) : own_E p e below G (T.setTop (mkF m pc Ls S)) := by
  obtain ⟨X, hx, hZ, hby, hml, hown, eT, N, hsz, hlk⟩ := X
  subst hp
  obtain ⟨T', X', eT', stp⟩ := getS2 X hx hZ hown (host := "") (Or.inl w1) Via.refl eT F (g := mkF m pc Ls S) rfl (hb hby hd)
  exact own_go stp (k _ ⟨X', hx, hZ, hby, hml, hown, eT', N, hsz, hlk⟩)
theorem own_staK {C f d : String} {v : Value} (F : Sta Z h C f d v) (K : Keep h h' []) : Sta Z h' C f d v := by
  obtain ⟨cf, i, k, f', st, cell, h1, h2, h3, h4, h5, r⟩ := F
  exact ⟨cf, i, k, f', st, cell, h1, h2, h3, h4, K.2.1 _ _ h5 (fun q => nomatch q), r⟩
theorem own_putF (X : own_A l Z own cb ml n0 p e R s m args below meth c T h locs cells slots) {i kk : Nat} {a : Addr} {C f d : String} {v old : Value} {ty : FieldType} (w1 : (Jvm.Cond.fieldLink own i C f d).before a0 Z = true) (F : Fld Z h a C f d old) (E : Exa Z h a C) (L : (Jvm.Cond.lays C C f d).before a0 Z = true ∨ ((Jvm.Cond.laysFinal C C f d).before a0 Z = true ∧ own = C ∧ meth.name = "<init>")) (wi : (Jvm.Cond.instantiable C kk).before a0 Z = true)
    (hty : parseFieldDescriptor d = some ty) (hn : narrow ty v = v) (hft : fits ty v = true) (hg : n0 ≤ a) (hd : decode cb pc = .ok (.putfield i, 3)) (hp : pc + 3 = pc')
    (k : ∀ T' h' locs', own_A l Z own cb ml n0 p e R s m args below meth c T' h' locs' cells slots → Wr h h' a (Jvm.RoadKit.slotOf Z C f d) v → Fld Z h' a C f d v → own_E p e below G (T'.setTop (mkF m pc' Ls S))) : own_E p e below G (T.setTop (mkF m pc Ls (v :: .ref a :: S))) := by
  obtain ⟨X, hx, hZ, hby, hml, hown, eT, N, hsz, hlk⟩ := X
  subst hp
  obtain ⟨T', h', X', eT', W, stp⟩ := putF X hx hZ hown (host := "") (Or.inl w1) Via.refl eT F E L wi hty hn hft (g := mkF m pc Ls (v :: .ref a :: S)) rfl rfl (hb hby hd)
  exact own_go stp (k _ _ _ ⟨X', hx, hZ, hby, hml, hown, eT', Fr.snoc X' N hg, by rw [W.size]; exact hsz, hlk⟩ W (F.same W))
theorem own_putFN (X : own_A l Z own cb ml n0 p e R s m args below meth c T h locs cells slots) {i kk : Nat} {a : Addr} {C f d : String} {v v' old : Value} {ty : FieldType} (w1 : (Jvm.Cond.fieldLink own i C f d).before a0 Z = true) (F : Fld Z h a C f d old) (E : Exa Z h a C) (L : (Jvm.Cond.lays C C f d).before a0 Z = true ∨ ((Jvm.Cond.laysFinal C C f d).before a0 Z = true ∧ own = C ∧ meth.name = "<init>")) (wi : (Jvm.Cond.instantiable C kk).before a0 Z = true)
    (hty : parseFieldDescriptor d = some ty) (hn : narrow ty v = v') (hft : fits ty v' = true) (hg : n0 ≤ a) (hd : decode cb pc = .ok (.putfield i, 3)) (hp : pc + 3 = pc')
    (k : ∀ T' h' locs', own_A l Z own cb ml n0 p e R s m args below meth c T' h' locs' cells slots → Wr h h' a (Jvm.RoadKit.slotOf Z C f d) v' → Fld Z h' a C f d v' → own_E p e below G (T'.setTop (mkF m pc' Ls S))) : own_E p e below G (T.setTop (mkF m pc Ls (v :: .ref a :: S))) := by
  obtain ⟨X, hx, hZ, hby, hml, hown, eT, N, hsz, hlk⟩ := X
  subst hp
  obtain ⟨T', h', X', eT', W, stp⟩ := putFN X hx hZ hown w1 Via.refl eT F E L wi hty hn hft (g := mkF m pc Ls (v :: .ref a :: S)) rfl rfl (hb hby hd)
  exact own_go stp (k _ _ _ ⟨X', hx, hZ, hby, hml, hown, eT', Fr.snoc X' N hg, by rw [W.size]; exact hsz, hlk⟩ W (F.same W))
theorem own_new (X : own_A l Z own cb ml n0 p e R s m args below meth c T h locs cells slots) {i n : Nat} {C : String} (w1 : (Jvm.Cond.classLink own i C).before a0 Z = true) (w2 : (Jvm.Cond.instantiable C n).before a0 Z = true) (w3 : (Jvm.Cond.initialized C).before a0 Z = true) (hc : cells + 1 ≤ R.cells) (hs : slots + n ≤ R.slots)
    (hd : decode cb pc = .ok (.new i, 3)) (hp : pc + 3 = pc') (k : ∀ T' h' a, own_A l Z own cb ml n0 p e R s m args below meth c T' h' locs (cells + 1) (slots + n) → Ext h h' → h.size = a → n0 ≤ a → Exa Z h' a C → (∀ {O nm d : String} {ty : FieldType}, Laid Z a0 C O nm d → parseFieldDescriptor d = some ty → Fld Z h' a O nm d (defaultValue ty)) → own_E p e below G (T'.setTop (mkF m pc' Ls (.ref a :: S)))) : own_E p e below G (T.setTop (mkF m pc Ls S)) := by
  obtain ⟨X, hx, hZ, hby, hml, hown, eT, N, hsz, hlk⟩ := X
  subst hp
  obtain ⟨T', h', X', eT', E', A', D', -, stp⟩ := newO X hx hZ hown w1 w2 w3 eT (g := mkF m pc Ls S) rfl (hb hby hd) hc hs
  exact own_go stp (k _ _ _ ⟨X', hx, hZ, hby, hml, hown, eT', N, Nat.le_trans hsz E'.1, hlk⟩ E' rfl hsz A' D')
/-! arrays -/
def own_V (Z : State) (h : Heap) (a : Addr) (ty : FieldType) (z : Int32) (xs : List Int32) : Prop := ∃ k, Arv Z h a k ty z (xs.map Value.int) (.int 0) ∧ xs.length = z.toNatClampNeg
def own_W (Z : State) (h : Heap) (a : Addr) (z : Int32) (xs : List Int64) : Prop := ∃ k, Arv Z h a k .long z (xs.map Value.long) (.long 0) ∧ xs.length = z.toNatClampNeg
theorem own_V.ext {a : Addr} {ty : FieldType} {z : Int32} {xs : List Int32} (V : own_V Z h a ty z xs) (E : Ext h h') : own_V Z h' a ty z xs := by obtain ⟨k, A, q⟩ := V; exact ⟨k, A.ext E, q⟩
theorem own_W.ext {a : Addr} {z : Int32} {xs : List Int64} (V : own_W Z h a z xs) (E : Ext h h') : own_W Z h' a z xs := by obtain ⟨k, A, q⟩ := V; exact ⟨k, A.ext E, q⟩
theorem own_V.other {a b : Addr} {ty : FieldType} {z : Int32} {xs : List Int32} {sl : Nat} {v : Value} (V : own_V Z h a ty z xs) (W : Wr h h' b sl v) (q : a ≠ b) : own_V Z h' a ty z xs := by obtain ⟨k, A, r⟩ := V; exact ⟨k, A.other W q, r⟩
theorem own_W.other {a b : Addr} {z : Int32} {xs : List Int64} {sl : Nat} {v : Value} (V : own_W Z h a z xs) (W : Wr h h' b sl v) (q : a ≠ b) : own_W Z h' a z xs := by obtain ⟨k, A, r⟩ := V; exact ⟨k, A.other W q, r⟩
theorem own_V.keep {a : Addr} {ty : FieldType} {z : Int32} {xs : List Int32} {ws : List Addr} (V : own_V Z h a ty z xs) (K : Keep h h' ws) (q : a ∉ ws) : own_V Z h' a ty z xs := by obtain ⟨k, A, r⟩ := V; exact ⟨k, A.keep K q, r⟩
theorem own_W.keep {a : Addr} {z : Int32} {xs : List Int64} {ws : List Addr} (V : own_W Z h a z xs) (K : Keep h h' ws) (q : a ∉ ws) : own_W Z h' a z xs := by obtain ⟨k, A, r⟩ := V; exact ⟨k, A.keep K q, r⟩
theorem own_V.lt {a : Addr} {ty : FieldType} {z : Int32} {xs : List Int32} (V : own_V Z h a ty z xs) : a < h.size := by obtain ⟨k, A, r⟩ := V; exact A.lt
theorem own_W.lt {a : Addr} {z : Int32} {xs : List Int64} (V : own_W Z h a z xs) : a < h.size := by obtain ⟨k, A, r⟩ := V; exact A.lt
theorem own_V.len {a : Addr} {ty : FieldType} {z : Int32} {xs : List Int32} (V : own_V Z h a ty z xs) : xs.length = z.toNatClampNeg := by obtain ⟨k, A, r⟩ := V; exact r
theorem own_W.len {a : Addr} {z : Int32} {xs : List Int64} (V : own_W Z h a z xs) : xs.length = z.toNatClampNeg := by obtain ⟨k, A, r⟩ := V; exact r
theorem own_V.cast {a : Addr} {ty : FieldType} {z : Int32} {xs ys : List Int32} (V : own_V Z h a ty z xs) (q : xs = ys) : own_V Z h a ty z ys := q ▸ V
theorem own_W.cast {a : Addr} {z : Int32} {xs ys : List Int64} (V : own_W Z h a z xs) (q : xs = ys) : own_W Z h a z ys := q ▸ V
theorem own_cast (X : own_A l Z own cb ml n0 p e R s m args below meth c T h locs cells slots) {i : Nat} {a : Addr} {C : String} (w1 : (Jvm.Cond.classLink own i C).before a0 Z = true) (I : Ins Z h a C true)
    (hd : decode cb pc = .ok (.checkcast i, 3)) (hp : pc + 3 = pc') (k : ∀ T', own_A l Z own cb ml n0 p e R s m args below meth c T' h locs cells slots → own_E p e below G (T'.setTop (mkF m pc' Ls (.ref a :: S)))) : own_E p e below G (T.setTop (mkF m pc Ls (.ref a :: S))) := by
  obtain ⟨X, hx, hZ, hby, hml, hown, eT, N, hsz, hlk⟩ := X
  subst hp
  obtain ⟨T', X', eT', stp⟩ := castY X hx hZ hown w1 eT I (g := mkF m pc Ls (.ref a :: S)) rfl rfl (hb hby hd)
  exact own_go stp (k _ ⟨X', hx, hZ, hby, hml, hown, eT', N, hsz, hlk⟩)
theorem own_V.nn {a : Addr} {ty : FieldType} {z : Int32} {xs : List Int32} (V : own_V Z h a ty z xs) : ¬ z < 0 := by obtain ⟨k, ⟨cl, A, q1, q2, q3, r⟩, r'⟩ := V; exact q3
theorem own_idx {j z : Int32} {n : Nat} (q : n = z.toNatClampNeg) (h0 : ¬ j < 0) (h1 : j < z) : j.toNatClampNeg < n := by
  subst q
  rw [Int32.lt_iff_toInt_lt] at h0 h1
  have e0 : (0 : Int32).toInt = 0 := rfl
  simp only [Int32.toNatClampNeg]; omega
theorem own_mapI (xs : List Int32) (i : Nat) : (xs.map Value.int).getD i (.int 0) = .int (xs.getD i 0) := by
  simp only [List.getD_eq_getElem?_getD, List.getElem?_map]; cases xs[i]? <;> rfl
theorem own_mapL (xs : List Int64) (i : Nat) : (xs.map Value.long).getD i (.long 0) = .long (xs.getD i 0) := by
  simp only [List.getD_eq_getElem?_getD, List.getElem?_map]; cases xs[i]? <;> rfl
theorem own_newV (X : own_A l Z own cb ml n0 p e R s m args below meth c T h locs cells slots) {aty : ArrayType} {ty : FieldType} {n : Int32} (hty : newarray.typeOf aty = ty) (hdv : defaultValue ty = .int 0) (w : (Jvm.Cond.arrayClass ty).before a0 Z = true) (hn : ¬ n < 0) (cap : Nat) (hcap : n.toNatClampNeg ≤ cap) (hb8 : cap * 8 ≤ 536870912) (hc : cells + 1 ≤ R.cells) (hs : slots + cap ≤ R.slots)
    (hd : decode cb pc = .ok (.newarray aty, 2)) (hp : pc + 2 = pc') (k : ∀ T' h' a, own_A l Z own cb ml n0 p e R s m args below meth c T' h' locs (cells + 1) (slots + cap) → Ext h h' → h.size = a → n0 ≤ a → own_V Z h' a ty n (List.replicate n.toNatClampNeg 0) → own_E p e below G (T'.setTop (mkF m pc' Ls (.ref a :: S)))) : own_E p e below G (T.setTop (mkF m pc Ls (.int n :: S))) := by
  obtain ⟨X, hx, hZ, hby, hml, hown, eT, N, hsz, hlk⟩ := X
  subst hp; subst hty
  obtain ⟨T', h', cA, X', eT', E', A', stp⟩ := newP X hx hZ w eT (g := mkF m pc Ls (.int n :: S)) rfl (hb hby hd) rfl hn (cap := cap) hcap hb8 hc hs
  refine own_go stp (k _ _ _ ⟨X', hx, hZ, hby, hml, hown, eT', N, Nat.le_trans hsz E'.1, hlk⟩ E' rfl hsz ⟨cA, ?_, by simp⟩)
  have V := Arv.new A' hn
  rw [hdv] at V
  refine V.pad fun i => ?_
  rw [List.map_replicate]
  exact pad_rep [] (.int 0) n.toNatClampNeg i
theorem own_newW (X : own_A l Z own cb ml n0 p e R s m args below meth c T h locs cells slots) {n : Int32} (w : (Jvm.Cond.arrayClass .long).before a0 Z = true) (hn : ¬ n < 0) (cap : Nat) (hcap : n.toNatClampNeg ≤ cap) (hb8 : cap * 8 ≤ 536870912) (hc : cells + 1 ≤ R.cells) (hs : slots + cap ≤ R.slots)
    (hd : decode cb pc = .ok (.newarray .long, 2)) (hp : pc + 2 = pc') (k : ∀ T' h' a, own_A l Z own cb ml n0 p e R s m args below meth c T' h' locs (cells + 1) (slots + cap) → Ext h h' → h.size = a → n0 ≤ a → own_W Z h' a n (List.replicate n.toNatClampNeg 0) → own_E p e below G (T'.setTop (mkF m pc' Ls (.ref a :: S)))) : own_E p e below G (T.setTop (mkF m pc Ls (.int n :: S))) := by
  obtain ⟨X, hx, hZ, hby, hml, hown, eT, N, hsz, hlk⟩ := X
  subst hp
  obtain ⟨T', h', cA, X', eT', E', A', stp⟩ := newP X hx hZ (aty := .long) w eT (g := mkF m pc Ls (.int n :: S)) rfl (hb hby hd) rfl hn (cap := cap) hcap hb8 hc hs
  refine own_go stp (k _ _ _ ⟨X', hx, hZ, hby, hml, hown, eT', N, Nat.le_trans hsz E'.1, hlk⟩ E' rfl hsz ⟨cA, ?_, by simp⟩)
  have V := Arv.new A' hn
  refine V.pad fun i => ?_
  rw [List.map_replicate]
  exact pad_rep [] (.long 0) n.toNatClampNeg i
theorem own_bastore (X : own_A l Z own cb ml n0 p e R s m args below meth c T h locs cells slots) {a : Addr} {z j x y : Int32} {xs : List Int32} (V : own_V Z h a .byte z xs) (hg : n0 ≤ a) (hy : nar .byte x = y) (i : Nat) (hj : j.toNatClampNeg = i) (h0 : ¬ j < 0) (h1 : j < z)
    (hd : decode cb pc = .ok (.bastore, 1)) (hp : pc + 1 = pc') (k : ∀ T' h' locs', own_A l Z own cb ml n0 p e R s m args below meth c T' h' locs' cells slots → Wr h h' a j.toNatClampNeg (.int y) → own_V Z h' a .byte z (xs.set i y) → own_E p e below G (T'.setTop (mkF m pc' Ls S))) : own_E p e below G (T.setTop (mkF m pc Ls (.int x :: .int j :: .ref a :: S))) := by
  obtain ⟨X, hx, hZ, hby, hml, hown, eT, N, hsz, hlk⟩ := X
  obtain ⟨kc, ⟨cl, A, q1, q2, q3, H, F⟩, hlen⟩ := V
  subst hp; subst hy
  obtain ⟨T', h', X', eT', W, stp⟩ := stB X hx hZ eT A (j := j) (x := x) (inb_of q2 ⟨h0, h1⟩) (g := mkF m pc Ls (.int x :: .int j :: .ref a :: S)) rfl rfl (hb hby hd)
  refine own_go stp (k _ _ _ ⟨X', hx, hZ, hby, hml, hown, eT', Fr.snoc X' N hg, by rw [W.size]; exact hsz, hlk⟩ W ⟨kc, ?_, by rw [List.length_set]; exact hlen⟩)
  rw [List.map_set]
  exact Arv.set A q1 q2 q3 H F (fits_nar_byte _) W i hj (by rw [List.length_map, ← hj]; exact own_idx hlen h0 h1)
theorem own_iastore (X : own_A l Z own cb ml n0 p e R s m args below meth c T h locs cells slots) {a : Addr} {z j w x : Int32} {xs : List Int32} (V : own_V Z h a .int z xs) (hg : n0 ≤ a) (hy : w = x) (i : Nat) (hj : j.toNatClampNeg = i) (h0 : ¬ j < 0) (h1 : j < z)
    (hd : decode cb pc = .ok (.iastore, 1)) (hp : pc + 1 = pc') (k : ∀ T' h' locs', own_A l Z own cb ml n0 p e R s m args below meth c T' h' locs' cells slots → Wr h h' a j.toNatClampNeg (.int x) → own_V Z h' a .int z (xs.set i x) → own_E p e below G (T'.setTop (mkF m pc' Ls S))) : own_E p e below G (T.setTop (mkF m pc Ls (.int w :: .int j :: .ref a :: S))) := by
  obtain ⟨X, hx, hZ, hby, hml, hown, eT, N, hsz, hlk⟩ := X
  obtain ⟨kc, ⟨cl, A, q1, q2, q3, H, F⟩, hlen⟩ := V
  subst hp; subst hy
  obtain ⟨T', h', X', eT', W, stp⟩ := stI X hx hZ eT A (j := j) (x := w) (inb_of q2 ⟨h0, h1⟩) (g := mkF m pc Ls (.int w :: .int j :: .ref a :: S)) rfl rfl (hb hby hd)
  refine own_go stp (k _ _ _ ⟨X', hx, hZ, hby, hml, hown, eT', Fr.snoc X' N hg, by rw [W.size]; exact hsz, hlk⟩ W ⟨kc, ?_, by rw [List.length_set]; exact hlen⟩)
  rw [List.map_set]
  exact Arv.set A q1 q2 q3 H F rfl W i hj (by rw [List.length_map, ← hj]; exact own_idx hlen h0 h1)
theorem own_lastore (X : own_A l Z own cb ml n0 p e R s m args below meth c T h locs cells slots) {a : Addr} {z j : Int32} {w x : Int64} {xs : List Int64} (V : own_W Z h a z xs) (hg : n0 ≤ a) (hy : w = x) (i : Nat) (hj : j.toNatClampNeg = i) (h0 : ¬ j < 0) (h1 : j < z)
    (hd : decode cb pc = .ok (.lastore, 1)) (hp : pc + 1 = pc') (k : ∀ T' h' locs', own_A l Z own cb ml n0 p e R s m args below meth c T' h' locs' cells slots → Wr h h' a j.toNatClampNeg (.long x) → own_W Z h' a z (xs.set i x) → own_E p e below G (T'.setTop (mkF m pc' Ls S))) : own_E p e below G (T.setTop (mkF m pc Ls (.long w :: .int j :: .ref a :: S))) := by
  obtain ⟨X, hx, hZ, hby, hml, hown, eT, N, hsz, hlk⟩ := X
  obtain ⟨kc, ⟨cl, A, q1, q2, q3, H, F⟩, hlen⟩ := V
  subst hp; subst hy
  obtain ⟨T', h', X', eT', W, stp⟩ := stJ X hx hZ eT A (j := j) (x := w) (inb_of q2 ⟨h0, h1⟩) (g := mkF m pc Ls (.long w :: .int j :: .ref a :: S)) rfl rfl (hb hby hd)
  refine own_go stp (k _ _ _ ⟨X', hx, hZ, hby, hml, hown, eT', Fr.snoc X' N hg, by rw [W.size]; exact hsz, hlk⟩ W ⟨kc, ?_, by rw [List.length_set]; exact hlen⟩)
  rw [List.map_set]
  exact Arv.set A q1 q2 q3 H F rfl W i hj (by rw [List.length_map, ← hj]; exact own_idx hlen h0 h1)
theorem own_baload (X : own_A l Z own cb ml n0 p e R s m args below meth c T h locs cells slots) {a : Addr} {z j y : Int32} {xs : List Int32} (V : own_V Z h a .byte z xs) (h0 : ¬ j < 0) (h1 : j < z) (hy : xs.getD j.toNatClampNeg 0 = y) (hd : decode cb pc = .ok (.baload, 1)) (hp : pc + 1 = pc') (k : own_E p e below G (T.setTop (mkF m pc' Ls (.int y :: S)))) : own_E p e below G (T.setTop (mkF m pc Ls (.int j :: .ref a :: S))) := by
  obtain ⟨X, hx, hZ, hby, hml, hown, eT, N, hsz, hlk⟩ := X
  obtain ⟨kc, ⟨cl, A, q1, q2, q3, H, F⟩, hlen⟩ := V
  subst hp
  have hin := inb_of q2 (j := j) ⟨h0, h1⟩
  exact own_go (X.baloadBytes hx (j := j) (v := .int y) (by rw [eT]; exact A.1) (State.isArrayOf_alike hZ.alike A.2.1) A.2.2 hin (H.at hin (by rw [own_mapI, hy])) (g := mkF m pc Ls (.int j :: .ref a :: S)) rfl rfl (hb hby hd)) k
theorem own_iaload (X : own_A l Z own cb ml n0 p e R s m args below meth c T h locs cells slots) {a : Addr} {z j y : Int32} {xs : List Int32} (V : own_V Z h a .int z xs) (h0 : ¬ j < 0) (h1 : j < z) (hy : xs.getD j.toNatClampNeg 0 = y) (hd : decode cb pc = .ok (.iaload, 1)) (hp : pc + 1 = pc') (k : own_E p e below G (T.setTop (mkF m pc' Ls (.int y :: S)))) : own_E p e below G (T.setTop (mkF m pc Ls (.int j :: .ref a :: S))) := by
  obtain ⟨X, hx, hZ, hby, hml, hown, eT, N, hsz, hlk⟩ := X
  obtain ⟨kc, ⟨cl, A, q1, q2, q3, H, F⟩, hlen⟩ := V
  subst hp
  have hin := inb_of q2 (j := j) ⟨h0, h1⟩
  exact own_go (X.iaload hx (j := j) (v := .int y) (by rw [eT]; exact A.1) (State.isArrayOf_alike hZ.alike A.2.1) A.2.2 hin (H.at hin (by rw [own_mapI, hy])) (g := mkF m pc Ls (.int j :: .ref a :: S)) rfl rfl (hb hby hd)) k
theorem own_laload (X : own_A l Z own cb ml n0 p e R s m args below meth c T h locs cells slots) {a : Addr} {z j : Int32} {y : Int64} {xs : List Int64} (V : own_W Z h a z xs) (h0 : ¬ j < 0) (h1 : j < z) (hy : xs.getD j.toNatClampNeg 0 = y) (hd : decode cb pc = .ok (.laload, 1)) (hp : pc + 1 = pc') (k : own_E p e below G (T.setTop (mkF m pc' Ls (.long y :: S)))) : own_E p e below G (T.setTop (mkF m pc Ls (.int j :: .ref a :: S))) := by
  obtain ⟨X, hx, hZ, hby, hml, hown, eT, N, hsz, hlk⟩ := X
  obtain ⟨kc, ⟨cl, A, q1, q2, q3, H, F⟩, hlen⟩ := V
  subst hp
  have hin := inb_of q2 (j := j) ⟨h0, h1⟩
  exact own_go (X.laload hx (j := j) (v := .long y) (by rw [eT]; exact A.1) (State.isArrayOf_alike hZ.alike A.2.1) A.2.2 hin (H.at hin (by rw [own_mapL, hy])) (g := mkF m pc Ls (.int j :: .ref a :: S)) rfl rfl (hb hby hd)) k
theorem own_alen (X : own_A l Z own cb ml n0 p e R s m args below meth c T h locs cells slots) {a : Addr} {z : Int32} {ty : FieldType} {xs : List Int32} (V : own_V Z h a ty z xs) (hd : decode cb pc = .ok (.arraylength, 1)) (hp : pc + 1 = pc') (k : own_E p e below G (T.setTop (mkF m pc' Ls (.int z :: S)))) : own_E p e below G (T.setTop (mkF m pc Ls (.ref a :: S))) := by
  obtain ⟨X, hx, hZ, hby, hml, hown, eT, N, hsz, hlk⟩ := X
  obtain ⟨kc, ⟨cl, A, q1, q2, q3, H, F⟩, hlen⟩ := V
  subst hp
  refine own_go (X.arraylength hx (by rw [eT]; exact A.1) (State.isArrayOf_alike hZ.alike A.2.1) (g := mkF m pc Ls (.ref a :: S)) rfl rfl (hb hby hd)) ?_
  rw [len_of q2 q3]; exact k
end OwnKit
/-! OWN NUMBERS -/
theorem own_adL {a b : Int64} (h1 : -9223372036854775808 ≤ a.toInt + b.toInt) (h2 : a.toInt + b.toInt < 9223372036854775808) : (a + b).toInt = a.toInt + b.toInt := by
  rw [Int64.toInt_add]; exact Int.bmod_eq_of_le_mul_two (by omega) (by omega)
theorem own_sbL {a b : Int64} (h1 : -9223372036854775808 ≤ a.toInt - b.toInt) (h2 : a.toInt - b.toInt < 9223372036854775808) : (a - b).toInt = a.toInt - b.toInt := by
  rw [Int64.toInt_sub]; exact Int.bmod_eq_of_le_mul_two (by omega) (by omega)
theorem own_mlL {a b : Int64} (h1 : -9223372036854775808 ≤ a.toInt * b.toInt) (h2 : a.toInt * b.toInt < 9223372036854775808) : (a * b).toInt = a.toInt * b.toInt := by
  rw [Int64.toInt_mul]; exact Int.bmod_eq_of_le_mul_two (by omega) (by omega)
theorem own_ad {a b : Int32} (h1 : -2147483648 ≤ a.toInt + b.toInt) (h2 : a.toInt + b.toInt < 2147483648) : (a + b).toInt = a.toInt + b.toInt := by
  rw [Int32.toInt_add]; exact Int.bmod_eq_of_le_mul_two (by omega) (by omega)
theorem own_sb {a b : Int32} (h1 : -2147483648 ≤ a.toInt - b.toInt) (h2 : a.toInt - b.toInt < 2147483648) : (a - b).toInt = a.toInt - b.toInt := by
  rw [Int32.toInt_sub]; exact Int.bmod_eq_of_le_mul_two (by omega) (by omega)
theorem own_ml {a b : Int32} (h1 : -2147483648 ≤ a.toInt * b.toInt) (h2 : a.toInt * b.toInt < 2147483648) : (a * b).toInt = a.toInt * b.toInt := by
  rw [Int32.toInt_mul]; exact Int.bmod_eq_of_le_mul_two (by omega) (by omega)
theorem own_dvL {a b : Int64} (h0 : 0 ≤ a.toInt) (h1 : 0 < b.toInt) : (a / b).toInt = a.toInt / b.toInt := by
  rw [Int64.toInt_div, Int.tdiv_eq_ediv_of_nonneg h0]
  have := Int64.toInt_lt a
  have h2 : a.toInt / b.toInt ≤ a.toInt := Int.ediv_le_self _ h0
  have h3 : 0 ≤ a.toInt / b.toInt := Int.ediv_nonneg h0 (by omega)
  exact Int.bmod_eq_of_le_mul_two (by omega) (by omega)
theorem own_dv {a b : Int32} (h0 : 0 ≤ a.toInt) (h1 : 0 < b.toInt) : (a / b).toInt = a.toInt / b.toInt := by
  rw [Int32.toInt_div, Int.tdiv_eq_ediv_of_nonneg h0]
  have := Int32.toInt_lt a
  have h2 : a.toInt / b.toInt ≤ a.toInt := Int.ediv_le_self _ h0
  have h3 : 0 ≤ a.toInt / b.toInt := Int.ediv_nonneg h0 (by omega)
  exact Int.bmod_eq_of_le_mul_two (by omega) (by omega)
theorem own_rmL {a b : Int64} (h0 : 0 ≤ a.toInt) : (a % b).toInt = a.toInt % b.toInt := by
  rw [Int64.toInt_mod, Int.tmod_eq_emod_of_nonneg h0]
theorem own_rm {a b : Int32} (h0 : 0 ≤ a.toInt) : (a % b).toInt = a.toInt % b.toInt := by
  rw [Int32.toInt_mod, Int.tmod_eq_emod_of_nonneg h0]
theorem own_ltL {a b : Int64} : a < b ↔ a.toInt < b.toInt := Int64.lt_iff_toInt_lt
theorem own_lt {a b : Int32} : a < b ↔ a.toInt < b.toInt := Int32.lt_iff_toInt_lt
theorem own_eqL {a b : Int64} : a = b ↔ a.toInt = b.toInt := Int64.toInt_inj.symm
theorem own_eq {a b : Int32} : a = b ↔ a.toInt = b.toInt := Int32.toInt_inj.symm
theorem own_mkL {a b : Int64} {k : Nat} (hk : k < 64) (hb : b.toBitVec.toNat = 2 ^ k - 1) : (a &&& b).toInt = a.toInt % (2 ^ k : Nat) := by
  have e : (a &&& b).toBitVec.toNat = a.toBitVec.toNat % 2 ^ k := by rw [Int64.toBitVec_and, BitVec.toNat_and, hb, Nat.and_two_pow_sub_one_eq_mod]
  have hlt : a.toBitVec.toNat % 2 ^ k < 2 ^ 63 := Nat.lt_of_lt_of_le (Nat.mod_lt _ (Nat.two_pow_pos k)) (Nat.pow_le_pow_right (by decide) (by omega))
  have e2 : (a &&& b).toInt = ((a.toBitVec.toNat % 2 ^ k : Nat) : Int) := by
    show (a &&& b).toBitVec.toInt = _
    rw [BitVec.toInt_eq_toNat_cond, e, if_pos (by omega)]
  rw [e2]
  show _ = a.toBitVec.toInt % _
  rw [BitVec.toInt_eq_toNat_cond]
  have hd : ((2 ^ 64 : Nat) : Int) % ((2 ^ k : Nat) : Int) = 0 := by
    rw [← Int.natCast_emod, Nat.mod_eq_zero_of_dvd (Nat.pow_dvd_pow 2 (by omega))]; rfl
  split
  · rw [Int.natCast_emod]
  · rw [Int.sub_emod, hd, Int.sub_zero, Int.emod_emod_of_dvd _ (Int.dvd_refl _), Int.natCast_emod]
theorem own_mk {a b : Int32} {k : Nat} (hk : k < 32) (hb : b.toBitVec.toNat = 2 ^ k - 1) : (a &&& b).toInt = a.toInt % (2 ^ k : Nat) := by
  have e : (a &&& b).toBitVec.toNat = a.toBitVec.toNat % 2 ^ k := by rw [Int32.toBitVec_and, BitVec.toNat_and, hb, Nat.and_two_pow_sub_one_eq_mod]
  have hlt : a.toBitVec.toNat % 2 ^ k < 2 ^ 31 := Nat.lt_of_lt_of_le (Nat.mod_lt _ (Nat.two_pow_pos k)) (Nat.pow_le_pow_right (by decide) (by omega))
  have e2 : (a &&& b).toInt = ((a.toBitVec.toNat % 2 ^ k : Nat) : Int) := by
    show (a &&& b).toBitVec.toInt = _
    rw [BitVec.toInt_eq_toNat_cond, e, if_pos (by omega)]
  rw [e2]
  show _ = a.toBitVec.toInt % _
  rw [BitVec.toInt_eq_toNat_cond]
  have hd : ((2 ^ 32 : Nat) : Int) % ((2 ^ k : Nat) : Int) = 0 := by
    rw [← Int.natCast_emod, Nat.mod_eq_zero_of_dvd (Nat.pow_dvd_pow 2 (by omega))]; rfl
  split
  · rw [Int.natCast_emod]
  · rw [Int.sub_emod, hd, Int.sub_zero, Int.emod_emod_of_dvd _ (Int.dvd_refl _), Int.natCast_emod]
theorem own_AL {a b : Int64} {x y : Int} (ha : a.toInt = x) (hb : b.toInt = y) (h1 : -9223372036854775808 ≤ x + y) (h2 : x + y < 9223372036854775808) : (a + b).toInt = x + y := by subst ha hb; exact own_adL h1 h2
theorem own_SL {a b : Int64} {x y : Int} (ha : a.toInt = x) (hb : b.toInt = y) (h1 : -9223372036854775808 ≤ x - y) (h2 : x - y < 9223372036854775808) : (a - b).toInt = x - y := by subst ha hb; exact own_sbL h1 h2
theorem own_ML {a b : Int64} {x y : Int} (ha : a.toInt = x) (hb : b.toInt = y) (h1 : -9223372036854775808 ≤ x * y) (h2 : x * y < 9223372036854775808) : (a * b).toInt = x * y := by subst ha hb; exact own_mlL h1 h2
theorem own_DL {a b : Int64} {x y : Int} (ha : a.toInt = x) (hb : b.toInt = y) (h1 : 0 ≤ x) (h2 : 0 < y) : (a / b).toInt = x / y := by subst ha hb; exact own_dvL h1 h2
theorem own_RL {a b : Int64} {x y : Int} (ha : a.toInt = x) (hb : b.toInt = y) (h1 : 0 ≤ x) : (a % b).toInt = x % y := by subst ha hb; exact own_rmL h1
theorem own_AI {a b : Int32} {x y : Int} (ha : a.toInt = x) (hb : b.toInt = y) (h1 : -2147483648 ≤ x + y) (h2 : x + y < 2147483648) : (a + b).toInt = x + y := by subst ha hb; exact own_ad h1 h2
theorem own_SI {a b : Int32} {x y : Int} (ha : a.toInt = x) (hb : b.toInt = y) (h1 : -2147483648 ≤ x - y) (h2 : x - y < 2147483648) : (a - b).toInt = x - y := by subst ha hb; exact own_sb h1 h2
theorem own_MI {a b : Int32} {x y : Int} (ha : a.toInt = x) (hb : b.toInt = y) (h1 : -2147483648 ≤ x * y) (h2 : x * y < 2147483648) : (a * b).toInt = x * y := by subst ha hb; exact own_ml h1 h2
theorem own_DI {a b : Int32} {x y : Int} (ha : a.toInt = x) (hb : b.toInt = y) (h1 : 0 ≤ x) (h2 : 0 < y) : (a / b).toInt = x / y := by subst ha hb; exact own_dv h1 h2
theorem own_RI {a b : Int32} {x y : Int} (ha : a.toInt = x) (hb : b.toInt = y) (h1 : 0 ≤ x) : (a % b).toInt = x % y := by subst ha hb; exact own_rm h1
theorem own_pos {z : Int32} (h : ¬ z < 0) (h1 : ¬ z = 0) : (0 : Int32) < z := by
  have e0 : (0 : Int32).toInt = 0 := rfl
  rw [own_lt] at *; rw [own_eq] at h1; omega
theorem own_last {z : Int32} (h : (0 : Int32) < z) : ¬ z - 1 < 0 ∧ z - 1 < z := by
  have e0 : (0 : Int32).toInt = 0 := rfl
  have e1 : (1 : Int32).toInt = 1 := rfl
  have hl := Int32.toInt_lt z
  rw [own_lt] at h
  have a : (z - 1).toInt = z.toInt - 1 := own_SI rfl e1 (by omega) (by omega)
  rw [own_lt, own_lt]; omega
theorem own_gs {α : Type} (l : List α) (i j : Nat) (v d : α) (hi : i < l.length) : (l.set i v).getD j d = if i = j then v else l.getD j d := by
  simp only [List.getD_eq_getElem?_getD]
  by_cases h : i = j
  · subst h; rw [if_pos rfl, List.getElem?_set_self hi]; rfl
  · rw [if_neg h, List.getElem?_set_ne h]
theorem own_cl {n : Int32} {k : Int} (h : n.toInt = k) : n.toNatClampNeg = k.toNat := by subst h; rfl
theorem own_b8 {t : Int32} (h0 : -128 ≤ t.toInt) (h1 : t.toInt < 128) : t.toInt8.toInt32 = t := by
  rw [own_eq, Int8.toInt_toInt32, Int32.toInt_toInt8]
  exact Int.bmod_eq_of_le_mul_two (by omega) (by omega)
theorem own_i8 {t : Int32} {x : Int} (h : t.toInt = x) : (t.toInt8.toInt32).toInt = (x + 128) % 256 - 128 := by
  subst h
  rw [Int8.toInt_toInt32, Int32.toInt_toInt8, Int.bmod_def]
  split <;> omega
theorem own_shrI {a b : Int32} {x : Int} {k : Nat} (h : a.toInt = x) (hb : (b.toBitVec.smod (BitVec.ofNat 32 32)).toNat = k) : (a >>> b).toInt = x / (2 ^ k : Nat) := by
  subst h; subst hb
  show (a.toBitVec.sshiftRight' (b.toBitVec.smod (BitVec.ofNat 32 32))).toInt = _
  rw [BitVec.toInt_sshiftRight', Int.shiftRight_eq_div_pow]; rfl
theorem own_shlI {a b : Int32} {x : Int} {k : Nat} (h : a.toInt = x) (hb : (b.toBitVec.smod (BitVec.ofNat 32 32)).toNat = k) (h1 : -2147483648 ≤ x * (2 ^ k : Nat)) (h2 : x * (2 ^ k : Nat) < 2147483648) : (a <<< b).toInt = x * (2 ^ k : Nat) := by
  subst h; subst hb
  show (a.toBitVec <<< (b.toBitVec.smod (BitVec.ofNat 32 32))).toInt = a.toBitVec.toInt * _
  rw [BitVec.shiftLeft_eq', BitVec.toInt_shiftLeft, Nat.shiftLeft_eq, BitVec.toInt_eq_toNat_bmod]
  rw [show ((a.toBitVec.toNat * 2 ^ (b.toBitVec.smod (BitVec.ofNat 32 32)).toNat : Nat) : Int) = (a.toBitVec.toNat : Int) * ((2 ^ (b.toBitVec.smod (BitVec.ofNat 32 32)).toNat : Nat) : Int) from by simp]
  rw [← Int.bmod_mul_bmod]
  have e : ((a.toBitVec.toNat : Int).bmod (2 ^ 32)) = a.toInt := (BitVec.toInt_eq_toNat_bmod _).symm
  rw [e]
  exact Int.bmod_eq_of_le_mul_two (by omega) (by omega)
theorem own_orI {a b : Int32} {x y : Int} (k : Nat) (ha : a.toInt = x) (hb : b.toInt = y) (hk : k ≤ 31) (hx : x % (2 ^ k : Nat) = 0) (h0 : 0 ≤ y) (h1 : y < (2 ^ k : Nat)) (h2 : 0 ≤ x) : (a ||| b).toInt = x + y := by
  have la := a.toBitVec.isLt; have lb := b.toBitVec.isLt
  have na : (a.toBitVec.toNat : Int) = x := by
    have : a.toBitVec.toInt = x := ha
    rw [BitVec.toInt_eq_toNat_cond] at this; split at this <;> omega
  have nb : (b.toBitVec.toNat : Int) = y := by
    have : b.toBitVec.toInt = y := hb
    rw [BitVec.toInt_eq_toNat_cond] at this; split at this <;> omega
  have hm : a.toBitVec.toNat % 2 ^ k = 0 := by
    have : ((a.toBitVec.toNat % 2 ^ k : Nat) : Int) = 0 := by rw [Int.natCast_emod, na]; exact hx
    omega
  have hl : b.toBitVec.toNat < 2 ^ k := by omega
  have ho : a.toBitVec.toNat ||| b.toBitVec.toNat = a.toBitVec.toNat + b.toBitVec.toNat := by
    have hd : a.toBitVec.toNat = 2 ^ k * (a.toBitVec.toNat / 2 ^ k) := by
      have := Nat.div_add_mod a.toBitVec.toNat (2 ^ k); omega
    rw [hd, Nat.two_pow_add_eq_or_of_lt hl]
  have q : (a ||| b).toBitVec.toNat = a.toBitVec.toNat + b.toBitVec.toNat := by rw [Int32.toBitVec_or, BitVec.toNat_or, ho]
  have hA : a.toBitVec.toNat < 2 ^ 31 := by
    have : a.toBitVec.toInt = x := ha
    rw [BitVec.toInt_eq_toNat_cond] at this; split at this <;> omega
  have hB : b.toBitVec.toNat < 2 ^ 31 := by
    have : b.toBitVec.toInt = y := hb
    rw [BitVec.toInt_eq_toNat_cond] at this; split at this <;> omega
  have hS : a.toBitVec.toNat + b.toBitVec.toNat < 2 ^ 31 := by rw [← ho]; exact Nat.or_lt_two_pow hA hB
  show (a ||| b).toBitVec.toInt = _
  rw [BitVec.toInt_eq_toNat_cond, q, if_pos (by omega)]
  omega
theorem own_yes {c : Prop} [d : Decidable c] {a b r : Int32} (h : c) (h2 : a = r) : (if c then a else b) = r := (if_pos h).trans h2
theorem own_no {c : Prop} [d : Decidable c] {a b r : Int32} (h : ¬ c) (h2 : b = r) : (if c then a else b) = r := (if_neg h).trans h2
theorem own_d2_0 : decode jdk_30_method_1_code 0 = .ok (.aload_n 0, 1) := by decide +kernel
theorem own_d2_1 : decode jdk_30_method_1_code 1 = .ok (.invokespecial 1, 3) := by decide +kernel
theorem own_d2_4 : decode jdk_30_method_1_code 4 = .ok (.return_, 1) := by decide +kernel
theorem own_ef2 (a1 : Addr) (m : MethodId) : entryFrame m #[(.ref a1)] 1 = mkF m 0 #[.val (.ref a1)] [] := by first | (simp [entryFrame, mkF, argsToLocals, Value.category]; done) | rfl
theorem own_pf2 : plainFor (⟨"java/lang/Record", "<init>", "()V"⟩ : MethodName) = true := by first | exact plainFor_of_name (by first | (simp [plainName, overriddenIn]; done) | decide +kernel) | decide +kernel
set_option maxRecDepth 65536 in
set_option maxHeartbeats 40000000 in
theorem own_rm2 (l : Launch) (Z : State) (a0 : Array Value) (hw : ∀ d ∈ tables_1, d.before a0 Z = true) (a1 : Addr) (h0 : Heap) (n0 : Nat) (Z0 : n0 ≤ h0.size) :
    own_Con l Z (⟨"java/lang/Record", "<init>", "()V"⟩ : MethodName) jdk_30_method_1_code 1 none ({ frames := 1, cells := 0, slots := 0, locals := 12 } : Room) #[(.ref a1)] h0 n0 (fun v h => v = none ∧ h = h0) := by
  refine own_enter own_pf2 Z0 (own_ef2 a1) ?_
  intro p e s m below meth c T0 X0 hret hnm
  refine own_aloadN X0 own_d2_0 (pc' := 1) rfl (v := (.ref a1)) rfl rfl ?_
  refine own_initO X0 (hw _ (List.mem_of_getElem? (i := 12) rfl)) (hw _ (List.mem_of_getElem? (i := 13) rfl)) (hw _ (List.mem_of_getElem? (i := 14) rfl)) rfl (by decide) 0 (Nat.le_of_eq rfl) (by decide) own_d2_1 (pc' := 4) rfl fun T1 X2 => ?_
  refine own_vret X2 hret own_d2_4 (by decide) (by decide) ?_
  exact ⟨rfl, rfl⟩
theorem own_pd0 : parseMethodDescriptor "()V" = some ⟨[], none⟩ := by decide +kernel
theorem own_d1_0 : decode prog_31_method_1_code 0 = .ok (.aload_n 0, 1) := by decide +kernel
theorem own_d1_1 : decode prog_31_method_1_code 1 = .ok (.invokespecial 1, 3) := by decide +kernel
theorem own_d1_4 : decode prog_31_method_1_code 4 = .ok (.aload_n 0, 1) := by decide +kernel
theorem own_d1_5 : decode prog_31_method_1_code 5 = .ok (.lload_n 1, 1) := by decide +kernel
theorem own_d1_6 : decode prog_31_method_1_code 6 = .ok (.putfield 7, 3) := by decide +kernel
theorem own_d1_9 : decode prog_31_method_1_code 9 = .ok (.aload_n 0, 1) := by decide +kernel
theorem own_d1_10 : decode prog_31_method_1_code 10 = .ok (.aload_n 3, 1) := by decide +kernel
theorem own_d1_11 : decode prog_31_method_1_code 11 = .ok (.putfield 13, 3) := by decide +kernel
theorem own_d1_14 : decode prog_31_method_1_code 14 = .ok (.aload_n 0, 1) := by decide +kernel
theorem own_d1_15 : decode prog_31_method_1_code 15 = .ok (.aload 4, 2) := by decide +kernel
theorem own_d1_17 : decode prog_31_method_1_code 17 = .ok (.putfield 17, 3) := by decide +kernel
theorem own_d1_20 : decode prog_31_method_1_code 20 = .ok (.return_, 1) := by decide +kernel
theorem own_ef1 (a1 : Addr) (q2 : Int64) (a3 : Addr) (a4 : Addr) (m : MethodId) : entryFrame m #[(.ref a1), (.long q2), (.ref a3), (.ref a4)] 5 = mkF m 0 #[.val (.ref a1), .val (.long q2), .second, .val (.ref a3), .val (.ref a4)] [] := by first | (simp [entryFrame, mkF, argsToLocals, Value.category]; done) | rfl
theorem own_pf1 : plainFor (⟨"com/example/strom/strom/journal/Record", "<init>", "(J[B[B)V"⟩ : MethodName) = true := by first | exact plainFor_of_name (by first | (simp [plainName, overriddenIn]; done) | decide +kernel) | decide +kernel
set_option maxRecDepth 65536 in
set_option maxHeartbeats 40000000 in
theorem own_rm1 (l : Launch) (Z : State) (a0 : Array Value) (hw : ∀ d ∈ tables_1, d.before a0 Z = true) (a1 : Addr) (q2 : Int64) (a3 : Addr) (a4 : Addr) (h0 : Heap) (n0 : Nat) (Z0 : n0 ≤ h0.size) (E_a1 : Exa Z h0 a1 "com/example/strom/strom/journal/Record") (F_sequence_a1 : Fld Z h0 a1 "com/example/strom/strom/journal/Record" "sequence" "J" (.long (0 : Int64))) (F_key_a1 : Fld Z h0 a1 "com/example/strom/strom/journal/Record" "key" "[B" .null) (F_body_a1 : Fld Z h0 a1 "com/example/strom/strom/journal/Record" "body" "[B" .null) (g_a1 : n0 ≤ a1) :
    own_Con l Z (⟨"com/example/strom/strom/journal/Record", "<init>", "(J[B[B)V"⟩ : MethodName) prog_31_method_1_code 5 none ({ frames := 2, cells := 0, slots := 0, locals := 24 } : Room) #[(.ref a1), (.long q2), (.ref a3), (.ref a4)] h0 n0 (fun v h => v = none ∧ Keep h0 h [a1] ∧ Fld Z h a1 "com/example/strom/strom/journal/Record" "body" "[B" (.ref a4) ∧ Fld Z h a1 "com/example/strom/strom/journal/Record" "key" "[B" (.ref a3) ∧ Fld Z h a1 "com/example/strom/strom/journal/Record" "sequence" "J" (.long q2)) := by
  refine own_enter own_pf1 Z0 (own_ef1 a1 q2 a3 a4) ?_
  intro p e s m below meth c T0 X0 hret hnm
  refine own_aloadN X0 own_d1_0 (pc' := 1) rfl (v := (.ref a1)) rfl rfl ?_
  refine own_callI X0 (a := a1) (argsL := []) (S := []) (own_rm2 l Z a0 hw a1 h0 n0 X0.2.2.2.2.2.2.2.2.1 ) rfl (hw _ (List.mem_of_getElem? (i := 7) rfl)) (hw _ (List.mem_of_getElem? (i := 8) rfl)) (hw _ (List.mem_of_getElem? (i := 10) rfl)) (hw _ (List.mem_of_getElem? (i := 11) rfl)) (by decide) (by decide) 0 (by decide) rfl own_pd0 rfl rfl (Nat.le_of_eq rfl) (by decide) (by decide) own_d1_1 (pc' := 4) rfl fun T1 h2 lc3 r4 X5 Q6 => ?_
  obtain ⟨rfl, e7⟩ := Q6
  replace e7 := e7.symm
  subst e7
  show own_E p e below _ (T1.setTop (mkF m 4 #[.val (.ref a1), .val (.long q2), .second, .val (.ref a3), .val (.ref a4)] []))
  refine own_aloadN X5 own_d1_4 (pc' := 5) rfl (v := (.ref a1)) rfl rfl ?_
  refine own_lloadN X5 own_d1_5 (pc' := 6) rfl (v := q2) rfl ?_
  refine own_putF X5 (hw _ (List.mem_of_getElem? (i := 15) rfl)) F_sequence_a1 E_a1 (Or.inr ⟨(hw _ (List.mem_of_getElem? (i := 16) rfl)), rfl, hnm⟩) (hw _ (List.mem_of_getElem? (i := 2) rfl)) (ty := .long) (by decide) rfl rfl g_a1 own_d1_6 (pc' := 9) rfl fun T8 h9 lc11 X10 W12 F13 => ?_
  have A14 := Exa.wr W12 E_a1
  have F15 := Fld.other W12 F_key_a1 (Or.inr (slot_ne (Or.inr (hw _ (List.mem_of_getElem? (i := 18) rfl))) (Or.inr (hw _ (List.mem_of_getElem? (i := 16) rfl))) (by decide) (t := (.array .byte)) (t' := .long) (by decide) (by decide)))
  have F16 := Fld.other W12 F_body_a1 (Or.inr (slot_ne (Or.inr (hw _ (List.mem_of_getElem? (i := 20) rfl))) (Or.inr (hw _ (List.mem_of_getElem? (i := 16) rfl))) (by decide) (t := (.array .byte)) (t' := .long) (by decide) (by decide)))
  have K17 := Keep.wr (Keep.refl h0 [a1]) W12 (Or.inl (List.mem_of_getElem? (i := 0) rfl))
  refine own_aloadN X10 own_d1_9 (pc' := 10) rfl (v := (.ref a1)) rfl rfl ?_
  refine own_aloadN X10 own_d1_10 (pc' := 11) rfl (v := (.ref a3)) rfl rfl ?_
  refine own_putF X10 (hw _ (List.mem_of_getElem? (i := 17) rfl)) F15 A14 (Or.inr ⟨(hw _ (List.mem_of_getElem? (i := 18) rfl)), rfl, hnm⟩) (hw _ (List.mem_of_getElem? (i := 2) rfl)) (ty := (.array .byte)) (by decide) rfl rfl g_a1 own_d1_11 (pc' := 14) rfl fun T18 h19 lc21 X20 W22 F23 => ?_
  have A24 := Exa.wr W22 A14
  have F25 := Fld.other W22 F13 (Or.inr (slot_ne (Or.inr (hw _ (List.mem_of_getElem? (i := 16) rfl))) (Or.inr (hw _ (List.mem_of_getElem? (i := 18) rfl))) (by decide) (t := .long) (t' := (.array .byte)) (by decide) (by decide)))
  have F26 := Fld.other W22 F16 (Or.inr (slot_ne (Or.inr (hw _ (List.mem_of_getElem? (i := 20) rfl))) (Or.inr (hw _ (List.mem_of_getElem? (i := 18) rfl))) (by decide) (t := (.array .byte)) (t' := (.array .byte)) (by decide) (by decide)))
  have K27 := Keep.wr K17 W22 (Or.inl (List.mem_of_getElem? (i := 0) rfl))
  refine own_aloadN X20 own_d1_14 (pc' := 15) rfl (v := (.ref a1)) rfl rfl ?_
  refine own_aload X20 own_d1_15 (pc' := 17) rfl (v := (.ref a4)) rfl rfl ?_
  refine own_putF X20 (hw _ (List.mem_of_getElem? (i := 19) rfl)) F26 A24 (Or.inr ⟨(hw _ (List.mem_of_getElem? (i := 20) rfl)), rfl, hnm⟩) (hw _ (List.mem_of_getElem? (i := 2) rfl)) (ty := (.array .byte)) (by decide) rfl rfl g_a1 own_d1_17 (pc' := 20) rfl fun T28 h29 lc31 X30 W32 F33 => ?_
  have A34 := Exa.wr W32 A24
  have F35 := Fld.other W32 F25 (Or.inr (slot_ne (Or.inr (hw _ (List.mem_of_getElem? (i := 16) rfl))) (Or.inr (hw _ (List.mem_of_getElem? (i := 20) rfl))) (by decide) (t := .long) (t' := (.array .byte)) (by decide) (by decide)))
  have F36 := Fld.other W32 F23 (Or.inr (slot_ne (Or.inr (hw _ (List.mem_of_getElem? (i := 18) rfl))) (Or.inr (hw _ (List.mem_of_getElem? (i := 20) rfl))) (by decide) (t := (.array .byte)) (t' := (.array .byte)) (by decide) (by decide)))
  have K37 := Keep.wr K27 W32 (Or.inl (List.mem_of_getElem? (i := 0) rfl))
  refine own_vret X30 hret own_d1_20 (by decide) (by decide) ?_
  exact ⟨rfl, K37, F33, F36, F35⟩
theorem own_d5_0 : decode prog_4_method_2_code 0 = .ok (.aload_n 0, 1) := by decide +kernel
theorem own_d5_1 : decode prog_4_method_2_code 1 = .ok (.invokespecial 7, 3) := by decide +kernel
theorem own_d5_4 : decode prog_4_method_2_code 4 = .ok (.aload_n 0, 1) := by decide +kernel
theorem own_d5_5 : decode prog_4_method_2_code 5 = .ok (.aload_n 1, 1) := by decide +kernel
theorem own_d5_6 : decode prog_4_method_2_code 6 = .ok (.putfield 12, 3) := by decide +kernel
theorem own_d5_9 : decode prog_4_method_2_code 9 = .ok (.aload_n 0, 1) := by decide +kernel
theorem own_d5_10 : decode prog_4_method_2_code 10 = .ok (.iload_n 2, 1) := by decide +kernel
theorem own_d5_11 : decode prog_4_method_2_code 11 = .ok (.putfield 16, 3) := by decide +kernel
theorem own_d5_14 : decode prog_4_method_2_code 14 = .ok (.aload_n 0, 1) := by decide +kernel
theorem own_d5_15 : decode prog_4_method_2_code 15 = .ok (.lload_n 3, 1) := by decide +kernel
theorem own_d5_16 : decode prog_4_method_2_code 16 = .ok (.putfield 20, 3) := by decide +kernel
theorem own_d5_19 : decode prog_4_method_2_code 19 = .ok (.return_, 1) := by decide +kernel
theorem own_ef5 (a1 : Addr) (p3 : Int32) (q4 : Int64) (m : MethodId) : entryFrame m #[(.ref a1), .null, (.int p3), (.long q4)] 5 = mkF m 0 #[.val (.ref a1), .val .null, .val (.int p3), .val (.long q4), .second] [] := by first | (simp [entryFrame, mkF, argsToLocals, Value.category]; done) | rfl
theorem own_pf5 : plainFor (⟨"com/example/strom/strom/broker/ReadAllowance", "<init>", "(Lcom/example/strom/strom/broker/ReadAllowance;IJ)V"⟩ : MethodName) = true := by first | exact plainFor_of_name (by first | (simp [plainName, overriddenIn]; done) | decide +kernel) | decide +kernel
set_option maxRecDepth 65536 in
set_option maxHeartbeats 40000000 in
theorem own_rm5 (l : Launch) (Z : State) (a0 : Array Value) (hw : ∀ d ∈ tables_1, d.before a0 Z = true) (a1 : Addr) (p3 : Int32) (q4 : Int64) (h0 : Heap) (n0 : Nat) (Z0 : n0 ≤ h0.size) (E_a1 : Exa Z h0 a1 "com/example/strom/strom/broker/ReadAllowance") (F_whole_a1 : Fld Z h0 a1 "com/example/strom/strom/broker/ReadAllowance" "whole" "Lcom/example/strom/strom/broker/ReadAllowance;" .null) (F_records_a1 : Fld Z h0 a1 "com/example/strom/strom/broker/ReadAllowance" "records" "I" (.int (0 : Int32))) (F_bytes_a1 : Fld Z h0 a1 "com/example/strom/strom/broker/ReadAllowance" "bytes" "J" (.long (0 : Int64))) (g_a1 : n0 ≤ a1) :
    own_Con l Z (⟨"com/example/strom/strom/broker/ReadAllowance", "<init>", "(Lcom/example/strom/strom/broker/ReadAllowance;IJ)V"⟩ : MethodName) prog_4_method_2_code 5 none ({ frames := 1, cells := 0, slots := 0, locals := 12 } : Room) #[(.ref a1), .null, (.int p3), (.long q4)] h0 n0 (fun v h => v = none ∧ Keep h0 h [a1] ∧ Fld Z h a1 "com/example/strom/strom/broker/ReadAllowance" "bytes" "J" (.long q4) ∧ Fld Z h a1 "com/example/strom/strom/broker/ReadAllowance" "records" "I" (.int p3) ∧ Fld Z h a1 "com/example/strom/strom/broker/ReadAllowance" "whole" "Lcom/example/strom/strom/broker/ReadAllowance;" .null) := by
  refine own_enter own_pf5 Z0 (own_ef5 a1 p3 q4) ?_
  intro p e s m below meth c T0 X0 hret hnm
  refine own_aloadN X0 own_d5_0 (pc' := 1) rfl (v := (.ref a1)) rfl rfl ?_
  refine own_initO X0 (hw _ (List.mem_of_getElem? (i := 30) rfl)) (hw _ (List.mem_of_getElem? (i := 13) rfl)) (hw _ (List.mem_of_getElem? (i := 14) rfl)) rfl (by decide) 0 (Nat.le_of_eq rfl) (by decide) own_d5_1 (pc' := 4) rfl fun T1 X2 => ?_
  refine own_aloadN X2 own_d5_4 (pc' := 5) rfl (v := (.ref a1)) rfl rfl ?_
  refine own_aloadN X2 own_d5_5 (pc' := 6) rfl (v := .null) rfl rfl ?_
  refine own_putF X2 (hw _ (List.mem_of_getElem? (i := 31) rfl)) F_whole_a1 E_a1 (Or.inr ⟨(hw _ (List.mem_of_getElem? (i := 32) rfl)), rfl, hnm⟩) (hw _ (List.mem_of_getElem? (i := 22) rfl)) (ty := (.object "com/example/strom/strom/broker/ReadAllowance")) (by decide) rfl rfl g_a1 own_d5_6 (pc' := 9) rfl fun T3 h4 lc6 X5 W7 F8 => ?_
  have A9 := Exa.wr W7 E_a1
  have F10 := Fld.other W7 F_records_a1 (Or.inr (slot_ne (Or.inl (hw _ (List.mem_of_getElem? (i := 34) rfl))) (Or.inr (hw _ (List.mem_of_getElem? (i := 32) rfl))) (by decide) (t := .int) (t' := (.object "com/example/strom/strom/broker/ReadAllowance")) (by decide) (by decide)))
  have F11 := Fld.other W7 F_bytes_a1 (Or.inr (slot_ne (Or.inl (hw _ (List.mem_of_getElem? (i := 36) rfl))) (Or.inr (hw _ (List.mem_of_getElem? (i := 32) rfl))) (by decide) (t := .long) (t' := (.object "com/example/strom/strom/broker/ReadAllowance")) (by decide) (by decide)))
  have K12 := Keep.wr (Keep.refl h0 [a1]) W7 (Or.inl (List.mem_of_getElem? (i := 0) rfl))
  refine own_aloadN X5 own_d5_9 (pc' := 10) rfl (v := (.ref a1)) rfl rfl ?_
  refine own_iloadN X5 own_d5_10 (pc' := 11) rfl (v := p3) rfl ?_
  refine own_putF X5 (hw _ (List.mem_of_getElem? (i := 33) rfl)) F10 A9 (Or.inl (hw _ (List.mem_of_getElem? (i := 34) rfl))) (hw _ (List.mem_of_getElem? (i := 22) rfl)) (ty := .int) (by decide) rfl rfl g_a1 own_d5_11 (pc' := 14) rfl fun T13 h14 lc16 X15 W17 F18 => ?_
  have A19 := Exa.wr W17 A9
  have F20 := Fld.other W17 F8 (Or.inr (slot_ne (Or.inr (hw _ (List.mem_of_getElem? (i := 32) rfl))) (Or.inl (hw _ (List.mem_of_getElem? (i := 34) rfl))) (by decide) (t := (.object "com/example/strom/strom/broker/ReadAllowance")) (t' := .int) (by decide) (by decide)))
  have F21 := Fld.other W17 F11 (Or.inr (slot_ne (Or.inl (hw _ (List.mem_of_getElem? (i := 36) rfl))) (Or.inl (hw _ (List.mem_of_getElem? (i := 34) rfl))) (by decide) (t := .long) (t' := .int) (by decide) (by decide)))
  have K22 := Keep.wr K12 W17 (Or.inl (List.mem_of_getElem? (i := 0) rfl))
  refine own_aloadN X15 own_d5_14 (pc' := 15) rfl (v := (.ref a1)) rfl rfl ?_
  refine own_lloadN X15 own_d5_15 (pc' := 16) rfl (v := q4) rfl ?_
  refine own_putF X15 (hw _ (List.mem_of_getElem? (i := 35) rfl)) F21 A19 (Or.inl (hw _ (List.mem_of_getElem? (i := 36) rfl))) (hw _ (List.mem_of_getElem? (i := 22) rfl)) (ty := .long) (by decide) rfl rfl g_a1 own_d5_16 (pc' := 19) rfl fun T23 h24 lc26 X25 W27 F28 => ?_
  have A29 := Exa.wr W27 A19
  have F30 := Fld.other W27 F20 (Or.inr (slot_ne (Or.inr (hw _ (List.mem_of_getElem? (i := 32) rfl))) (Or.inl (hw _ (List.mem_of_getElem? (i := 36) rfl))) (by decide) (t := (.object "com/example/strom/strom/broker/ReadAllowance")) (t' := .long) (by decide) (by decide)))
  have F31 := Fld.other W27 F18 (Or.inr (slot_ne (Or.inl (hw _ (List.mem_of_getElem? (i := 34) rfl))) (Or.inl (hw _ (List.mem_of_getElem? (i := 36) rfl))) (by decide) (t := .int) (t' := .long) (by decide) (by decide)))
  have K32 := Keep.wr K22 W27 (Or.inl (List.mem_of_getElem? (i := 0) rfl))
  refine own_vret X25 hret own_d5_19 (by decide) (by decide) ?_
  exact ⟨rfl, K32, F28, F31, F30⟩
theorem own_ef5w (a1 : Addr) (a2 : Addr) (p3 : Int32) (q4 : Int64) (m : MethodId) : entryFrame m #[(.ref a1), (.ref a2), (.int p3), (.long q4)] 5 = mkF m 0 #[.val (.ref a1), .val (.ref a2), .val (.int p3), .val (.long q4), .second] [] := by first | (simp [entryFrame, mkF, argsToLocals, Value.category]; done) | rfl
set_option maxRecDepth 65536 in
set_option maxHeartbeats 40000000 in
theorem own_rm5w (l : Launch) (Z : State) (a0 : Array Value) (hw : ∀ d ∈ tables_1, d.before a0 Z = true) (a1 : Addr) (a2 : Addr) (p3 : Int32) (q4 : Int64) (h0 : Heap) (n0 : Nat) (Z0 : n0 ≤ h0.size) (E_a1 : Exa Z h0 a1 "com/example/strom/strom/broker/ReadAllowance") (F_whole_a1 : Fld Z h0 a1 "com/example/strom/strom/broker/ReadAllowance" "whole" "Lcom/example/strom/strom/broker/ReadAllowance;" .null) (F_records_a1 : Fld Z h0 a1 "com/example/strom/strom/broker/ReadAllowance" "records" "I" (.int (0 : Int32))) (F_bytes_a1 : Fld Z h0 a1 "com/example/strom/strom/broker/ReadAllowance" "bytes" "J" (.long (0 : Int64))) (g_a1 : n0 ≤ a1) :
    own_Con l Z (⟨"com/example/strom/strom/broker/ReadAllowance", "<init>", "(Lcom/example/strom/strom/broker/ReadAllowance;IJ)V"⟩ : MethodName) prog_4_method_2_code 5 none ({ frames := 1, cells := 0, slots := 0, locals := 12 } : Room) #[(.ref a1), (.ref a2), (.int p3), (.long q4)] h0 n0 (fun v h => v = none ∧ Keep h0 h [a1] ∧ Fld Z h a1 "com/example/strom/strom/broker/ReadAllowance" "bytes" "J" (.long q4) ∧ Fld Z h a1 "com/example/strom/strom/broker/ReadAllowance" "records" "I" (.int p3) ∧ Fld Z h a1 "com/example/strom/strom/broker/ReadAllowance" "whole" "Lcom/example/strom/strom/broker/ReadAllowance;" (.ref a2)) := by
  refine own_enter own_pf5 Z0 (own_ef5w a1 a2 p3 q4) ?_
  intro p e s m below meth c T0 X0 hret hnm
  refine own_aloadN X0 own_d5_0 (pc' := 1) rfl (v := (.ref a1)) rfl rfl ?_
  refine own_initO X0 (hw _ (List.mem_of_getElem? (i := 30) rfl)) (hw _ (List.mem_of_getElem? (i := 13) rfl)) (hw _ (List.mem_of_getElem? (i := 14) rfl)) rfl (by decide) 0 (Nat.le_of_eq rfl) (by decide) own_d5_1 (pc' := 4) rfl fun T1 X2 => ?_
  refine own_aloadN X2 own_d5_4 (pc' := 5) rfl (v := (.ref a1)) rfl rfl ?_
  refine own_aloadN X2 own_d5_5 (pc' := 6) rfl (v := (.ref a2)) rfl rfl ?_
  refine own_putF X2 (hw _ (List.mem_of_getElem? (i := 31) rfl)) F_whole_a1 E_a1 (Or.inr ⟨(hw _ (List.mem_of_getElem? (i := 32) rfl)), rfl, hnm⟩) (hw _ (List.mem_of_getElem? (i := 22) rfl)) (ty := (.object "com/example/strom/strom/broker/ReadAllowance")) (by decide) rfl rfl g_a1 own_d5_6 (pc' := 9) rfl fun T3 h4 lc6 X5 W7 F8 => ?_
  have A9 := Exa.wr W7 E_a1
  have F10 := Fld.other W7 F_records_a1 (Or.inr (slot_ne (Or.inl (hw _ (List.mem_of_getElem? (i := 34) rfl))) (Or.inr (hw _ (List.mem_of_getElem? (i := 32) rfl))) (by decide) (t := .int) (t' := (.object "com/example/strom/strom/broker/ReadAllowance")) (by decide) (by decide)))
  have F11 := Fld.other W7 F_bytes_a1 (Or.inr (slot_ne (Or.inl (hw _ (List.mem_of_getElem? (i := 36) rfl))) (Or.inr (hw _ (List.mem_of_getElem? (i := 32) rfl))) (by decide) (t := .long) (t' := (.object "com/example/strom/strom/broker/ReadAllowance")) (by decide) (by decide)))
  have K12 := Keep.wr (Keep.refl h0 [a1]) W7 (Or.inl (List.mem_of_getElem? (i := 0) rfl))
  refine own_aloadN X5 own_d5_9 (pc' := 10) rfl (v := (.ref a1)) rfl rfl ?_
  refine own_iloadN X5 own_d5_10 (pc' := 11) rfl (v := p3) rfl ?_
  refine own_putF X5 (hw _ (List.mem_of_getElem? (i := 33) rfl)) F10 A9 (Or.inl (hw _ (List.mem_of_getElem? (i := 34) rfl))) (hw _ (List.mem_of_getElem? (i := 22) rfl)) (ty := .int) (by decide) rfl rfl g_a1 own_d5_11 (pc' := 14) rfl fun T13 h14 lc16 X15 W17 F18 => ?_
  have A19 := Exa.wr W17 A9
  have F20 := Fld.other W17 F8 (Or.inr (slot_ne (Or.inr (hw _ (List.mem_of_getElem? (i := 32) rfl))) (Or.inl (hw _ (List.mem_of_getElem? (i := 34) rfl))) (by decide) (t := (.object "com/example/strom/strom/broker/ReadAllowance")) (t' := .int) (by decide) (by decide)))
  have F21 := Fld.other W17 F11 (Or.inr (slot_ne (Or.inl (hw _ (List.mem_of_getElem? (i := 36) rfl))) (Or.inl (hw _ (List.mem_of_getElem? (i := 34) rfl))) (by decide) (t := .long) (t' := .int) (by decide) (by decide)))
  have K22 := Keep.wr K12 W17 (Or.inl (List.mem_of_getElem? (i := 0) rfl))
  refine own_aloadN X15 own_d5_14 (pc' := 15) rfl (v := (.ref a1)) rfl rfl ?_
  refine own_lloadN X15 own_d5_15 (pc' := 16) rfl (v := q4) rfl ?_
  refine own_putF X15 (hw _ (List.mem_of_getElem? (i := 35) rfl)) F21 A19 (Or.inl (hw _ (List.mem_of_getElem? (i := 36) rfl))) (hw _ (List.mem_of_getElem? (i := 22) rfl)) (ty := .long) (by decide) rfl rfl g_a1 own_d5_16 (pc' := 19) rfl fun T23 h24 lc26 X25 W27 F28 => ?_
  have A29 := Exa.wr W27 A19
  have F30 := Fld.other W27 F20 (Or.inr (slot_ne (Or.inr (hw _ (List.mem_of_getElem? (i := 32) rfl))) (Or.inl (hw _ (List.mem_of_getElem? (i := 36) rfl))) (by decide) (t := (.object "com/example/strom/strom/broker/ReadAllowance")) (t' := .long) (by decide) (by decide)))
  have F31 := Fld.other W27 F18 (Or.inr (slot_ne (Or.inl (hw _ (List.mem_of_getElem? (i := 34) rfl))) (Or.inl (hw _ (List.mem_of_getElem? (i := 36) rfl))) (by decide) (t := .int) (t' := .long) (by decide) (by decide)))
  have K32 := Keep.wr K22 W27 (Or.inl (List.mem_of_getElem? (i := 0) rfl))
  refine own_vret X25 hret own_d5_19 (by decide) (by decide) ?_
  exact ⟨rfl, K32, F28, F31, F30⟩
theorem own_pd1 : parseMethodDescriptor "(Lcom/example/strom/strom/broker/ReadAllowance;IJ)V" = some ⟨[(.object "com/example/strom/strom/broker/ReadAllowance"), .int, .long], none⟩ := by decide +kernel
theorem own_d4_0 : decode prog_4_method_1_code 0 = .ok (.aload_n 0, 1) := by decide +kernel
theorem own_d4_1 : decode prog_4_method_1_code 1 = .ok (.aconst_null, 1) := by decide +kernel
theorem own_d4_2 : decode prog_4_method_1_code 2 = .ok (.iload_n 1, 1) := by decide +kernel
theorem own_d4_3 : decode prog_4_method_1_code 3 = .ok (.lload_n 2, 1) := by decide +kernel
theorem own_d4_4 : decode prog_4_method_1_code 4 = .ok (.invokespecial 1, 3) := by decide +kernel
theorem own_d4_7 : decode prog_4_method_1_code 7 = .ok (.return_, 1) := by decide +kernel
theorem own_ef4 (a1 : Addr) (p2 : Int32) (q3 : Int64) (m : MethodId) : entryFrame m #[(.ref a1), (.int p2), (.long q3)] 4 = mkF m 0 #[.val (.ref a1), .val (.int p2), .val (.long q3), .second] [] := by first | (simp [entryFrame, mkF, argsToLocals, Value.category]; done) | rfl
theorem own_pf4 : plainFor (⟨"com/example/strom/strom/broker/ReadAllowance", "<init>", "(IJ)V"⟩ : MethodName) = true := by first | exact plainFor_of_name (by first | (simp [plainName, overriddenIn]; done) | decide +kernel) | decide +kernel
set_option maxRecDepth 65536 in
set_option maxHeartbeats 40000000 in
theorem own_rm4 (l : Launch) (Z : State) (a0 : Array Value) (hw : ∀ d ∈ tables_1, d.before a0 Z = true) (a1 : Addr) (p2 : Int32) (q3 : Int64) (h0 : Heap) (n0 : Nat) (Z0 : n0 ≤ h0.size) (E_a1 : Exa Z h0 a1 "com/example/strom/strom/broker/ReadAllowance") (F_whole_a1 : Fld Z h0 a1 "com/example/strom/strom/broker/ReadAllowance" "whole" "Lcom/example/strom/strom/broker/ReadAllowance;" .null) (F_records_a1 : Fld Z h0 a1 "com/example/strom/strom/broker/ReadAllowance" "records" "I" (.int (0 : Int32))) (F_bytes_a1 : Fld Z h0 a1 "com/example/strom/strom/broker/ReadAllowance" "bytes" "J" (.long (0 : Int64))) (g_a1 : n0 ≤ a1) :
    own_Con l Z (⟨"com/example/strom/strom/broker/ReadAllowance", "<init>", "(IJ)V"⟩ : MethodName) prog_4_method_1_code 4 none ({ frames := 2, cells := 0, slots := 0, locals := 28 } : Room) #[(.ref a1), (.int p2), (.long q3)] h0 n0 (fun v h => v = none ∧ Keep h0 h [a1] ∧ Fld Z h a1 "com/example/strom/strom/broker/ReadAllowance" "bytes" "J" (.long q3) ∧ Fld Z h a1 "com/example/strom/strom/broker/ReadAllowance" "records" "I" (.int p2) ∧ Fld Z h a1 "com/example/strom/strom/broker/ReadAllowance" "whole" "Lcom/example/strom/strom/broker/ReadAllowance;" .null) := by
  refine own_enter own_pf4 Z0 (own_ef4 a1 p2 q3) ?_
  intro p e s m below meth c T0 X0 hret hnm
  refine own_aloadN X0 own_d4_0 (pc' := 1) rfl (v := (.ref a1)) rfl rfl ?_
  refine own_anull X0 own_d4_1 (pc' := 2) rfl ?_
  refine own_iloadN X0 own_d4_2 (pc' := 3) rfl (v := p2) rfl ?_
  refine own_lloadN X0 own_d4_3 (pc' := 4) rfl (v := q3) rfl ?_
  refine own_callI X0 (a := a1) (argsL := [.null, (.int p2), (.long q3)]) (S := []) (own_rm5 l Z a0 hw a1 p2 q3 h0 n0 X0.2.2.2.2.2.2.2.2.1 E_a1 F_whole_a1 F_records_a1 F_bytes_a1 g_a1) rfl (hw _ (List.mem_of_getElem? (i := 27) rfl)) (hw _ (List.mem_of_getElem? (i := 28) rfl)) (hw _ (List.mem_of_getElem? (i := 23) rfl)) (hw _ (List.mem_of_getElem? (i := 29) rfl)) (by decide) (by decide) 0 (by decide) rfl own_pd1 rfl rfl (Nat.le_of_eq rfl) (by decide) (by decide) own_d4_4 (pc' := 7) rfl fun T1 h2 lc3 r4 X5 Q6 => ?_
  obtain ⟨rfl, K7, F8, F9, F10⟩ := Q6
  have A11 := Exa.keep E_a1 K7
  have K12 := Keep.trans (Keep.refl h0 [a1]) K7 (allS (Or.inl (List.mem_of_getElem? (i := 0) rfl)) all0)
  show own_E p e below _ (T1.setTop (mkF m 7 #[.val (.ref a1), .val (.int p2), .val (.long q3), .second] []))
  refine own_vret X5 hret own_d4_7 (by decide) (by decide) ?_
  exact ⟨rfl, K12, F8, F9, F10⟩
theorem own_d6_0 : decode prog_4_method_3_code 0 = .ok (.new 2, 3) := by decide +kernel
theorem own_d6_3 : decode prog_4_method_3_code 3 = .ok (.dup, 1) := by decide +kernel
theorem own_d6_4 : decode prog_4_method_3_code 4 = .ok (.aload_n 0, 1) := by decide +kernel
theorem own_d6_5 : decode prog_4_method_3_code 5 = .ok (.iload_n 1, 1) := by decide +kernel
theorem own_d6_6 : decode prog_4_method_3_code 6 = .ok (.lload_n 2, 1) := by decide +kernel
theorem own_d6_7 : decode prog_4_method_3_code 7 = .ok (.invokespecial 1, 3) := by decide +kernel
theorem own_d6_10 : decode prog_4_method_3_code 10 = .ok (.areturn, 1) := by decide +kernel
theorem own_ef6 (a1 : Addr) (p2 : Int32) (q3 : Int64) (m : MethodId) : entryFrame m #[(.ref a1), (.int p2), (.long q3)] 4 = mkF m 0 #[.val (.ref a1), .val (.int p2), .val (.long q3), .second] [] := by first | (simp [entryFrame, mkF, argsToLocals, Value.category]; done) | rfl
theorem own_pf6 : plainFor (⟨"com/example/strom/strom/broker/ReadAllowance", "part", "(IJ)Lcom/example/strom/strom/broker/ReadAllowance;"⟩ : MethodName) = true := by first | exact plainFor_of_name (by first | (simp [plainName, overriddenIn]; done) | decide +kernel) | decide +kernel
set_option maxRecDepth 65536 in
set_option maxHeartbeats 40000000 in
theorem own_rm6 (l : Launch) (Z : State) (a0 : Array Value) (hw : ∀ d ∈ tables_1, d.before a0 Z = true) (a1 : Addr) (p2 : Int32) (q3 : Int64) (h0 : Heap) (n0 : Nat) (Z0 : n0 ≤ h0.size) :
    own_Con l Z (⟨"com/example/strom/strom/broker/ReadAllowance", "part", "(IJ)Lcom/example/strom/strom/broker/ReadAllowance;"⟩ : MethodName) prog_4_method_3_code 4 (some (.object "com/example/strom/strom/broker/ReadAllowance")) ({ frames := 2, cells := 1, slots := 3, locals := 29 } : Room) #[(.ref a1), (.int p2), (.long q3)] h0 n0 (fun v h => ∃ b, v = some (.ref b) ∧ n0 ≤ b ∧ h0.size ≤ b ∧ Keep h0 h [] ∧ Exa Z h b "com/example/strom/strom/broker/ReadAllowance" ∧ Fld Z h b "com/example/strom/strom/broker/ReadAllowance" "bytes" "J" (.long q3) ∧ Fld Z h b "com/example/strom/strom/broker/ReadAllowance" "records" "I" (.int p2) ∧ Fld Z h b "com/example/strom/strom/broker/ReadAllowance" "whole" "Lcom/example/strom/strom/broker/ReadAllowance;" (.ref a1)) := by
  refine own_enter own_pf6 Z0 (own_ef6 a1 p2 q3) ?_
  intro p e s m below meth c T0 X0 hret hnm
  refine own_new X0 (hw _ (List.mem_of_getElem? (i := 42) rfl)) (hw _ (List.mem_of_getElem? (i := 22) rfl)) (hw _ (List.mem_of_getElem? (i := 23) rfl)) (by decide) (by decide) own_d6_0 (pc' := 3) rfl fun T2 h3 b1 X4 Ex5 hs6 g7 A8 D9 => ?_
  have sz10 : h0.size ≤ b1 := Nat.le_trans (Keep.refl h0 []).1 (Nat.le_of_eq hs6)
  have F11 : Fld Z h3 b1 "com/example/strom/strom/broker/ReadAllowance" "whole" "Lcom/example/strom/strom/broker/ReadAllowance;" .null := D9 (Or.inr (hw _ (List.mem_of_getElem? (i := 32) rfl))) (ty := (.object "com/example/strom/strom/broker/ReadAllowance")) (by decide)
  have F12 : Fld Z h3 b1 "com/example/strom/strom/broker/ReadAllowance" "records" "I" (.int (0 : Int32)) := D9 (Or.inl (hw _ (List.mem_of_getElem? (i := 34) rfl))) (ty := .int) (by decide)
  have F13 : Fld Z h3 b1 "com/example/strom/strom/broker/ReadAllowance" "bytes" "J" (.long (0 : Int64)) := D9 (Or.inl (hw _ (List.mem_of_getElem? (i := 36) rfl))) (ty := .long) (by decide)
  have K14 := Keep.ext (Keep.refl h0 []) Ex5
  refine own_dup X4 own_d6_3 (pc' := 4) rfl rfl ?_
  refine own_aloadN X4 own_d6_4 (pc' := 5) rfl (v := (.ref a1)) rfl rfl ?_
  refine own_iloadN X4 own_d6_5 (pc' := 6) rfl (v := p2) rfl ?_
  refine own_lloadN X4 own_d6_6 (pc' := 7) rfl (v := q3) rfl ?_
  refine own_callI X4 (a := b1) (argsL := [(.ref a1), (.int p2), (.long q3)]) (S := [(.ref b1)]) (own_rm5w l Z a0 hw b1 a1 p2 q3 h3 n0 X4.2.2.2.2.2.2.2.2.1 A8 F11 F12 F13 g7) rfl (hw _ (List.mem_of_getElem? (i := 27) rfl)) (hw _ (List.mem_of_getElem? (i := 28) rfl)) (hw _ (List.mem_of_getElem? (i := 23) rfl)) (hw _ (List.mem_of_getElem? (i := 29) rfl)) (by decide) (by decide) 1 (by decide) rfl own_pd1 rfl rfl (Nat.le_of_eq rfl) (by decide) (by decide) own_d6_7 (pc' := 10) rfl fun T15 h16 lc17 r18 X19 Q20 => ?_
  obtain ⟨rfl, K21, F22, F23, F24⟩ := Q20
  have A25 := Exa.keep A8 K21
  have K26 := Keep.trans K14 K21 (allS (Or.inr sz10) all0)
  show own_E p e below _ (T15.setTop (mkF m 10 #[.val (.ref a1), .val (.int p2), .val (.long q3), .second] [(.ref b1)]))
  refine own_aret X19 (t := (.object "com/example/strom/strom/broker/ReadAllowance")) hret rfl rfl rfl own_d6_10 (by decide) (by decide) ?_
  exact ⟨b1, rfl, g7, sz10, K26, A25, F22, F23, F24⟩
theorem own_d8_0 : decode prog_31_method_6_code 0 = .ok (.aload_n 0, 1) := by decide +kernel
theorem own_d8_1 : decode prog_31_method_6_code 1 = .ok (.getfield 13, 3) := by decide +kernel
theorem own_d8_4 : decode prog_31_method_6_code 4 = .ok (.areturn, 1) := by decide +kernel
theorem own_ef8 (a1 : Addr) (m : MethodId) : entryFrame m #[(.ref a1)] 1 = mkF m 0 #[.val (.ref a1)] [] := by first | (simp [entryFrame, mkF, argsToLocals, Value.category]; done) | rfl
theorem own_pf8 : plainFor (⟨"com/example/strom/strom/journal/Record", "key", "()[B"⟩ : MethodName) = true := by first | exact plainFor_of_name (by first | (simp [plainName, overriddenIn]; done) | decide +kernel) | decide +kernel
set_option maxRecDepth 65536 in
set_option maxHeartbeats 40000000 in
theorem own_rm8 (l : Launch) (Z : State) (a0 : Array Value) (hw : ∀ d ∈ tables_1, d.before a0 Z = true) (a1 : Addr) (a2 : Addr) (h0 : Heap) (n0 : Nat) (Z0 : n0 ≤ h0.size) (E_a1 : Exa Z h0 a1 "com/example/strom/strom/journal/Record") (F_key_a1 : Fld Z h0 a1 "com/example/strom/strom/journal/Record" "key" "[B" (.ref a2)) :
    own_Con l Z (⟨"com/example/strom/strom/journal/Record", "key", "()[B"⟩ : MethodName) prog_31_method_6_code 1 (some (.array .byte)) ({ frames := 0, cells := 0, slots := 0, locals := 0 } : Room) #[(.ref a1)] h0 n0 (fun v h => v = some (.ref a2) ∧ h = h0) := by
  refine own_enter own_pf8 Z0 (own_ef8 a1) ?_
  intro p e s m below meth c T0 X0 hret hnm
  refine own_aloadN X0 own_d8_0 (pc' := 1) rfl (v := (.ref a1)) rfl rfl ?_
  refine own_getF X0 (hw _ (List.mem_of_getElem? (i := 17) rfl)) F_key_a1 own_d8_1 (pc' := 4) rfl fun T1 X2 => ?_
  refine own_aret X2 (t := (.array .byte)) hret rfl rfl rfl own_d8_4 (by decide) (by decide) ?_
  exact ⟨rfl, rfl⟩
theorem own_d9_0 : decode prog_31_method_7_code 0 = .ok (.aload_n 0, 1) := by decide +kernel
theorem own_d9_1 : decode prog_31_method_7_code 1 = .ok (.getfield 17, 3) := by decide +kernel
theorem own_d9_4 : decode prog_31_method_7_code 4 = .ok (.areturn, 1) := by decide +kernel
theorem own_ef9 (a1 : Addr) (m : MethodId) : entryFrame m #[(.ref a1)] 1 = mkF m 0 #[.val (.ref a1)] [] := by first | (simp [entryFrame, mkF, argsToLocals, Value.category]; done) | rfl
theorem own_pf9 : plainFor (⟨"com/example/strom/strom/journal/Record", "body", "()[B"⟩ : MethodName) = true := by first | exact plainFor_of_name (by first | (simp [plainName, overriddenIn]; done) | decide +kernel) | decide +kernel
set_option maxRecDepth 65536 in
set_option maxHeartbeats 40000000 in
theorem own_rm9 (l : Launch) (Z : State) (a0 : Array Value) (hw : ∀ d ∈ tables_1, d.before a0 Z = true) (a1 : Addr) (a2 : Addr) (h0 : Heap) (n0 : Nat) (Z0 : n0 ≤ h0.size) (E_a1 : Exa Z h0 a1 "com/example/strom/strom/journal/Record") (F_body_a1 : Fld Z h0 a1 "com/example/strom/strom/journal/Record" "body" "[B" (.ref a2)) :
    own_Con l Z (⟨"com/example/strom/strom/journal/Record", "body", "()[B"⟩ : MethodName) prog_31_method_7_code 1 (some (.array .byte)) ({ frames := 0, cells := 0, slots := 0, locals := 0 } : Room) #[(.ref a1)] h0 n0 (fun v h => v = some (.ref a2) ∧ h = h0) := by
  refine own_enter own_pf9 Z0 (own_ef9 a1) ?_
  intro p e s m below meth c T0 X0 hret hnm
  refine own_aloadN X0 own_d9_0 (pc' := 1) rfl (v := (.ref a1)) rfl rfl ?_
  refine own_getF X0 (hw _ (List.mem_of_getElem? (i := 19) rfl)) F_body_a1 own_d9_1 (pc' := 4) rfl fun T1 X2 => ?_
  refine own_aret X2 (t := (.array .byte)) hret rfl rfl rfl own_d9_4 (by decide) (by decide) ?_
  exact ⟨rfl, rfl⟩
theorem own_pd2 : parseMethodDescriptor "()[B" = some ⟨[], some (.array .byte)⟩ := by decide +kernel
theorem own_d7_0 : decode prog_4_method_5_code 0 = .ok (.aload_n 0, 1) := by decide +kernel
theorem own_d7_1 : decode prog_4_method_5_code 1 = .ok (.dup, 1) := by decide +kernel
theorem own_d7_2 : decode prog_4_method_5_code 2 = .ok (.getfield 16, 3) := by decide +kernel
theorem own_d7_5 : decode prog_4_method_5_code 5 = .ok (.iconst 1, 1) := by decide +kernel
theorem own_d7_6 : decode prog_4_method_5_code 6 = .ok (.isub, 1) := by decide +kernel
theorem own_d7_7 : decode prog_4_method_5_code 7 = .ok (.putfield 16, 3) := by decide +kernel
theorem own_d7_10 : decode prog_4_method_5_code 10 = .ok (.aload_n 0, 1) := by decide +kernel
theorem own_d7_11 : decode prog_4_method_5_code 11 = .ok (.dup, 1) := by decide +kernel
theorem own_d7_12 : decode prog_4_method_5_code 12 = .ok (.getfield 20, 3) := by decide +kernel
theorem own_d7_15 : decode prog_4_method_5_code 15 = .ok (.aload_n 1, 1) := by decide +kernel
theorem own_d7_16 : decode prog_4_method_5_code 16 = .ok (.invokevirtual 28, 3) := by decide +kernel
theorem own_d7_19 : decode prog_4_method_5_code 19 = .ok (.arraylength, 1) := by decide +kernel
theorem own_d7_20 : decode prog_4_method_5_code 20 = .ok (.aload_n 1, 1) := by decide +kernel
theorem own_d7_21 : decode prog_4_method_5_code 21 = .ok (.invokevirtual 34, 3) := by decide +kernel
theorem own_d7_24 : decode prog_4_method_5_code 24 = .ok (.arraylength, 1) := by decide +kernel
theorem own_d7_25 : decode prog_4_method_5_code 25 = .ok (.iadd, 1) := by decide +kernel
theorem own_d7_26 : decode prog_4_method_5_code 26 = .ok (.i2l, 1) := by decide +kernel
theorem own_d7_27 : decode prog_4_method_5_code 27 = .ok (.lsub, 1) := by decide +kernel
theorem own_d7_28 : decode prog_4_method_5_code 28 = .ok (.putfield 20, 3) := by decide +kernel
theorem own_d7_31 : decode prog_4_method_5_code 31 = .ok (.aload_n 0, 1) := by decide +kernel
theorem own_d7_32 : decode prog_4_method_5_code 32 = .ok (.getfield 12, 3) := by decide +kernel
theorem own_d7_35 : decode prog_4_method_5_code 35 = .ok (.ifnull 11, 3) := by decide +kernel
theorem own_d7_46 : decode prog_4_method_5_code 46 = .ok (.return_, 1) := by decide +kernel
theorem own_ef7 (a1 : Addr) (a2 : Addr) (m : MethodId) : entryFrame m #[(.ref a1), (.ref a2)] 2 = mkF m 0 #[.val (.ref a1), .val (.ref a2)] [] := by first | (simp [entryFrame, mkF, argsToLocals, Value.category]; done) | rfl
theorem own_pf7 : plainFor (⟨"com/example/strom/strom/broker/ReadAllowance", "spend", "(Lcom/example/strom/strom/journal/Record;)V"⟩ : MethodName) = true := by first | exact plainFor_of_name (by first | (simp [plainName, overriddenIn]; done) | decide +kernel) | decide +kernel
set_option maxRecDepth 65536 in
set_option maxHeartbeats 40000000 in
theorem own_rm7 (l : Launch) (Z : State) (a0 : Array Value) (hw : ∀ d ∈ tables_1, d.before a0 Z = true) (a1 : Addr) (w1 : Int32) (w2 : Int64) (a2 : Addr) (a4 : Addr) (a5 : Addr) (z4 : Int32) (xs_a4 : List Int32) (z5 : Int32) (xs_a5 : List Int32) (h0 : Heap) (n0 : Nat) (Z0 : n0 ≤ h0.size) (E_a1 : Exa Z h0 a1 "com/example/strom/strom/broker/ReadAllowance") (F_whole_a1 : Fld Z h0 a1 "com/example/strom/strom/broker/ReadAllowance" "whole" "Lcom/example/strom/strom/broker/ReadAllowance;" .null) (F_records_a1 : Fld Z h0 a1 "com/example/strom/strom/broker/ReadAllowance" "records" "I" (.int w1)) (F_bytes_a1 : Fld Z h0 a1 "com/example/strom/strom/broker/ReadAllowance" "bytes" "J" (.long w2)) (E_a2 : Exa Z h0 a2 "com/example/strom/strom/journal/Record") (F_key_a2 : Fld Z h0 a2 "com/example/strom/strom/journal/Record" "key" "[B" (.ref a4)) (F_body_a2 : Fld Z h0 a2 "com/example/strom/strom/journal/Record" "body" "[B" (.ref a5)) (V_a4 : own_V Z h0 a4 .byte z4 xs_a4) (V_a5 : own_V Z h0 a5 .byte z5 xs_a5) (n21 : a2 ≠ a1) (n41 : a4 ≠ a1) (n51 : a5 ≠ a1) (g_a1 : n0 ≤ a1) :
    own_Con l Z (⟨"com/example/strom/strom/broker/ReadAllowance", "spend", "(Lcom/example/strom/strom/journal/Record;)V"⟩ : MethodName) prog_4_method_5_code 2 none ({ frames := 1, cells := 0, slots := 0, locals := 16 } : Room) #[(.ref a1), (.ref a2)] h0 n0 (fun v h => v = none ∧ Keep h0 h [a1] ∧ Fld Z h a1 "com/example/strom/strom/broker/ReadAllowance" "bytes" "J" (.long (w2 - ((z4 + z5).toInt64))) ∧ Fld Z h a1 "com/example/strom/strom/broker/ReadAllowance" "records" "I" (.int (w1 - (1 : Int32))) ∧ Fld Z h a1 "com/example/strom/strom/broker/ReadAllowance" "whole" "Lcom/example/strom/strom/broker/ReadAllowance;" .null) := by
  refine own_enter own_pf7 Z0 (own_ef7 a1 a2) ?_
  intro p e s m below meth c T0 X0 hret hnm
  refine own_aloadN X0 own_d7_0 (pc' := 1) rfl (v := (.ref a1)) rfl rfl ?_
  refine own_dup X0 own_d7_1 (pc' := 2) rfl rfl ?_
  refine own_getF X0 (hw _ (List.mem_of_getElem? (i := 33) rfl)) F_records_a1 own_d7_2 (pc' := 5) rfl fun T1 X2 => ?_
  refine own_iconst X2 own_d7_5 (pc' := 6) rfl (z := (1 : Int32)) rfl ?_
  refine own_isub X2 own_d7_6 (pc' := 7) rfl (z := (w1 - (1 : Int32))) rfl ?_
  refine own_putF X2 (hw _ (List.mem_of_getElem? (i := 33) rfl)) F_records_a1 E_a1 (Or.inl (hw _ (List.mem_of_getElem? (i := 34) rfl))) (hw _ (List.mem_of_getElem? (i := 22) rfl)) (ty := .int) (by decide) rfl rfl g_a1 own_d7_7 (pc' := 10) rfl fun T3 h4 lc6 X5 W7 F8 => ?_
  have V9 := V_a4.other W7 n41
  have V10 := V_a5.other W7 n51
  have A11 := Exa.wr W7 E_a1
  have A12 := Exa.wr W7 E_a2
  have F13 := Fld.other W7 F_whole_a1 (Or.inr (slot_ne (Or.inr (hw _ (List.mem_of_getElem? (i := 32) rfl))) (Or.inl (hw _ (List.mem_of_getElem? (i := 34) rfl))) (by decide) (t := (.object "com/example/strom/strom/broker/ReadAllowance")) (t' := .int) (by decide) (by decide)))
  have F14 := Fld.other W7 F_bytes_a1 (Or.inr (slot_ne (Or.inl (hw _ (List.mem_of_getElem? (i := 36) rfl))) (Or.inl (hw _ (List.mem_of_getElem? (i := 34) rfl))) (by decide) (t := .long) (t' := .int) (by decide) (by decide)))
  have F15 := Fld.other W7 F_key_a2 (Or.inl n21)
  have F16 := Fld.other W7 F_body_a2 (Or.inl n21)
  have K17 := Keep.wr (Keep.refl h0 [a1]) W7 (Or.inl (List.mem_of_getElem? (i := 0) rfl))
  refine own_aloadN X5 own_d7_10 (pc' := 11) rfl (v := (.ref a1)) rfl rfl ?_
  refine own_dup X5 own_d7_11 (pc' := 12) rfl rfl ?_
  refine own_getF X5 (hw _ (List.mem_of_getElem? (i := 35) rfl)) F14 own_d7_12 (pc' := 15) rfl fun T18 X19 => ?_
  refine own_aloadN X19 own_d7_15 (pc' := 16) rfl (v := (.ref a2)) rfl rfl ?_
  refine own_callV X19 (C := "com/example/strom/strom/journal/Record") (a := a2) (argsL := []) (S := [(.long w2), (.ref a1)]) (own_rm8 l Z a0 hw a2 a4 h4 n0 X19.2.2.2.2.2.2.2.2.1 A12 F15) A12 (hw _ (List.mem_of_getElem? (i := 48) rfl)) (hw _ (List.mem_of_getElem? (i := 49) rfl)) (hw _ (List.mem_of_getElem? (i := 51) rfl)) (hw _ (List.mem_of_getElem? (i := 50) rfl)) (hw _ (List.mem_of_getElem? (i := 3) rfl)) (hw _ (List.mem_of_getElem? (i := 52) rfl)) (by decide) (by decide) 3 (by decide) rfl own_pd2 rfl rfl (Nat.le_of_eq rfl) (by decide) (by decide) own_d7_16 (pc' := 19) rfl rfl fun T20 h21 lc22 r23 X24 Q25 => ?_
  obtain ⟨rfl, e26⟩ := Q25
  replace e26 := e26.symm
  subst e26
  show own_E p e below _ (T20.setTop (mkF m 19 #[.val (.ref a1), .val (.ref a2)] [(.ref a4), (.long w2), (.ref a1)]))
  refine own_alen X24 V9 own_d7_19 (pc' := 20) rfl ?_
  refine own_aloadN X24 own_d7_20 (pc' := 21) rfl (v := (.ref a2)) rfl rfl ?_
  refine own_callV X24 (C := "com/example/strom/strom/journal/Record") (a := a2) (argsL := []) (S := [(.int z4), (.long w2), (.ref a1)]) (own_rm9 l Z a0 hw a2 a5 h4 n0 X24.2.2.2.2.2.2.2.2.1 A12 F16) A12 (hw _ (List.mem_of_getElem? (i := 53) rfl)) (hw _ (List.mem_of_getElem? (i := 54) rfl)) (hw _ (List.mem_of_getElem? (i := 56) rfl)) (hw _ (List.mem_of_getElem? (i := 55) rfl)) (hw _ (List.mem_of_getElem? (i := 3) rfl)) (hw _ (List.mem_of_getElem? (i := 57) rfl)) (by decide) (by decide) 4 (by decide) rfl own_pd2 rfl rfl (Nat.le_of_eq rfl) (by decide) (by decide) own_d7_21 (pc' := 24) rfl rfl fun T27 h28 lc29 r30 X31 Q32 => ?_
  obtain ⟨rfl, e33⟩ := Q32
  replace e33 := e33.symm
  subst e33
  show own_E p e below _ (T27.setTop (mkF m 24 #[.val (.ref a1), .val (.ref a2)] [(.ref a5), (.int z4), (.long w2), (.ref a1)]))
  refine own_alen X31 V10 own_d7_24 (pc' := 25) rfl ?_
  refine own_iadd X31 own_d7_25 (pc' := 26) rfl (z := (z4 + z5)) rfl ?_
  refine own_i2l X31 own_d7_26 (pc' := 27) rfl (z := ((z4 + z5).toInt64)) rfl ?_
  refine own_lsub X31 own_d7_27 (pc' := 28) rfl (z := (w2 - ((z4 + z5).toInt64))) rfl ?_
  refine own_putF X31 (hw _ (List.mem_of_getElem? (i := 35) rfl)) F14 A11 (Or.inl (hw _ (List.mem_of_getElem? (i := 36) rfl))) (hw _ (List.mem_of_getElem? (i := 22) rfl)) (ty := .long) (by decide) rfl rfl g_a1 own_d7_28 (pc' := 31) rfl fun T34 h35 lc37 X36 W38 F39 => ?_
  have V40 := V9.other W38 n41
  have V41 := V10.other W38 n51
  have A42 := Exa.wr W38 A11
  have A43 := Exa.wr W38 A12
  have F44 := Fld.other W38 F13 (Or.inr (slot_ne (Or.inr (hw _ (List.mem_of_getElem? (i := 32) rfl))) (Or.inl (hw _ (List.mem_of_getElem? (i := 36) rfl))) (by decide) (t := (.object "com/example/strom/strom/broker/ReadAllowance")) (t' := .long) (by decide) (by decide)))
  have F45 := Fld.other W38 F8 (Or.inr (slot_ne (Or.inl (hw _ (List.mem_of_getElem? (i := 34) rfl))) (Or.inl (hw _ (List.mem_of_getElem? (i := 36) rfl))) (by decide) (t := .int) (t' := .long) (by decide) (by decide)))
  have F46 := Fld.other W38 F15 (Or.inl n21)
  have F47 := Fld.other W38 F16 (Or.inl n21)
  have K48 := Keep.wr K17 W38 (Or.inl (List.mem_of_getElem? (i := 0) rfl))
  refine own_aloadN X36 own_d7_31 (pc' := 32) rfl (v := (.ref a1)) rfl rfl ?_
  refine own_getF X36 (hw _ (List.mem_of_getElem? (i := 31) rfl)) F44 own_d7_32 (pc' := 35) rfl fun T49 X50 => ?_
  refine own_ifnullY X50 own_d7_35 (by decide) (pc' := 46) rfl ?_
  refine own_vret X50 hret own_d7_46 (by decide) (by decide) ?_
  exact ⟨rfl, K48, F39, F45, F44⟩
theorem own_pd3 : parseMethodDescriptor "(Lcom/example/strom/strom/journal/Record;)V" = some ⟨[(.object "com/example/strom/strom/journal/Record")], none⟩ := by decide +kernel
theorem own_d7_38 : decode prog_4_method_5_code 38 = .ok (.aload_n 0, 1) := by decide +kernel
theorem own_d7_39 : decode prog_4_method_5_code 39 = .ok (.getfield 12, 3) := by decide +kernel
theorem own_d7_42 : decode prog_4_method_5_code 42 = .ok (.aload_n 1, 1) := by decide +kernel
theorem own_d7_43 : decode prog_4_method_5_code 43 = .ok (.invokevirtual 37, 3) := by decide +kernel
theorem own_ef7w (a1 : Addr) (a2 : Addr) (m : MethodId) : entryFrame m #[(.ref a1), (.ref a2)] 2 = mkF m 0 #[.val (.ref a1), .val (.ref a2)] [] := by first | (simp [entryFrame, mkF, argsToLocals, Value.category]; done) | rfl
set_option maxRecDepth 65536 in
set_option maxHeartbeats 40000000 in
theorem own_rm7w (l : Launch) (Z : State) (a0 : Array Value) (hw : ∀ d ∈ tables_1, d.before a0 Z = true) (a1 : Addr) (a3 : Addr) (w1 : Int32) (w2 : Int64) (a2 : Addr) (a4 : Addr) (a5 : Addr) (w3 : Int32) (w4 : Int64) (z4 : Int32) (xs_a4 : List Int32) (z5 : Int32) (xs_a5 : List Int32) (h0 : Heap) (n0 : Nat) (Z0 : n0 ≤ h0.size) (E_a1 : Exa Z h0 a1 "com/example/strom/strom/broker/ReadAllowance") (F_whole_a1 : Fld Z h0 a1 "com/example/strom/strom/broker/ReadAllowance" "whole" "Lcom/example/strom/strom/broker/ReadAllowance;" (.ref a3)) (F_records_a1 : Fld Z h0 a1 "com/example/strom/strom/broker/ReadAllowance" "records" "I" (.int w1)) (F_bytes_a1 : Fld Z h0 a1 "com/example/strom/strom/broker/ReadAllowance" "bytes" "J" (.long w2)) (E_a2 : Exa Z h0 a2 "com/example/strom/strom/journal/Record") (F_key_a2 : Fld Z h0 a2 "com/example/strom/strom/journal/Record" "key" "[B" (.ref a4)) (F_body_a2 : Fld Z h0 a2 "com/example/strom/strom/journal/Record" "body" "[B" (.ref a5)) (E_a3 : Exa Z h0 a3 "com/example/strom/strom/broker/ReadAllowance") (F_whole_a3 : Fld Z h0 a3 "com/example/strom/strom/broker/ReadAllowance" "whole" "Lcom/example/strom/strom/broker/ReadAllowance;" .null) (F_records_a3 : Fld Z h0 a3 "com/example/strom/strom/broker/ReadAllowance" "records" "I" (.int w3)) (F_bytes_a3 : Fld Z h0 a3 "com/example/strom/strom/broker/ReadAllowance" "bytes" "J" (.long w4)) (V_a4 : own_V Z h0 a4 .byte z4 xs_a4) (V_a5 : own_V Z h0 a5 .byte z5 xs_a5) (n21 : a2 ≠ a1) (n41 : a4 ≠ a1) (n51 : a5 ≠ a1) (n31 : a3 ≠ a1) (n23 : a2 ≠ a3) (n43 : a4 ≠ a3) (n53 : a5 ≠ a3) (g_a1 : n0 ≤ a1) (g_a3 : n0 ≤ a3) :
    own_Con l Z (⟨"com/example/strom/strom/broker/ReadAllowance", "spend", "(Lcom/example/strom/strom/journal/Record;)V"⟩ : MethodName) prog_4_method_5_code 2 none ({ frames := 2, cells := 0, slots := 0, locals := 29 } : Room) #[(.ref a1), (.ref a2)] h0 n0 (fun v h => v = none ∧ Keep h0 h [a1, a3] ∧ Fld Z h a1 "com/example/strom/strom/broker/ReadAllowance" "bytes" "J" (.long (w2 - ((z4 + z5).toInt64))) ∧ Fld Z h a1 "com/example/strom/strom/broker/ReadAllowance" "records" "I" (.int (w1 - (1 : Int32))) ∧ Fld Z h a1 "com/example/strom/strom/broker/ReadAllowance" "whole" "Lcom/example/strom/strom/broker/ReadAllowance;" (.ref a3) ∧ Fld Z h a3 "com/example/strom/strom/broker/ReadAllowance" "bytes" "J" (.long (w4 - ((z4 + z5).toInt64))) ∧ Fld Z h a3 "com/example/strom/strom/broker/ReadAllowance" "records" "I" (.int (w3 - (1 : Int32))) ∧ Fld Z h a3 "com/example/strom/strom/broker/ReadAllowance" "whole" "Lcom/example/strom/strom/broker/ReadAllowance;" .null) := by
  refine own_enter own_pf7 Z0 (own_ef7w a1 a2) ?_
  intro p e s m below meth c T0 X0 hret hnm
  refine own_aloadN X0 own_d7_0 (pc' := 1) rfl (v := (.ref a1)) rfl rfl ?_
  refine own_dup X0 own_d7_1 (pc' := 2) rfl rfl ?_
  refine own_getF X0 (hw _ (List.mem_of_getElem? (i := 33) rfl)) F_records_a1 own_d7_2 (pc' := 5) rfl fun T1 X2 => ?_
  refine own_iconst X2 own_d7_5 (pc' := 6) rfl (z := (1 : Int32)) rfl ?_
  refine own_isub X2 own_d7_6 (pc' := 7) rfl (z := (w1 - (1 : Int32))) rfl ?_
  refine own_putF X2 (hw _ (List.mem_of_getElem? (i := 33) rfl)) F_records_a1 E_a1 (Or.inl (hw _ (List.mem_of_getElem? (i := 34) rfl))) (hw _ (List.mem_of_getElem? (i := 22) rfl)) (ty := .int) (by decide) rfl rfl g_a1 own_d7_7 (pc' := 10) rfl fun T3 h4 lc6 X5 W7 F8 => ?_
  have V9 := V_a4.other W7 n41
  have V10 := V_a5.other W7 n51
  have A11 := Exa.wr W7 E_a1
  have A12 := Exa.wr W7 E_a2
  have A13 := Exa.wr W7 E_a3
  have F14 := Fld.other W7 F_whole_a1 (Or.inr (slot_ne (Or.inr (hw _ (List.mem_of_getElem? (i := 32) rfl))) (Or.inl (hw _ (List.mem_of_getElem? (i := 34) rfl))) (by decide) (t := (.object "com/example/strom/strom/broker/ReadAllowance")) (t' := .int) (by decide) (by decide)))
  have F15 := Fld.other W7 F_bytes_a1 (Or.inr (slot_ne (Or.inl (hw _ (List.mem_of_getElem? (i := 36) rfl))) (Or.inl (hw _ (List.mem_of_getElem? (i := 34) rfl))) (by decide) (t := .long) (t' := .int) (by decide) (by decide)))
  have F16 := Fld.other W7 F_key_a2 (Or.inl n21)
  have F17 := Fld.other W7 F_body_a2 (Or.inl n21)
  have F18 := Fld.other W7 F_whole_a3 (Or.inl n31)
  have F19 := Fld.other W7 F_records_a3 (Or.inl n31)
  have F20 := Fld.other W7 F_bytes_a3 (Or.inl n31)
  have K21 := Keep.wr (Keep.refl h0 [a1, a3]) W7 (Or.inl (List.mem_of_getElem? (i := 0) rfl))
  refine own_aloadN X5 own_d7_10 (pc' := 11) rfl (v := (.ref a1)) rfl rfl ?_
  refine own_dup X5 own_d7_11 (pc' := 12) rfl rfl ?_
  refine own_getF X5 (hw _ (List.mem_of_getElem? (i := 35) rfl)) F15 own_d7_12 (pc' := 15) rfl fun T22 X23 => ?_
  refine own_aloadN X23 own_d7_15 (pc' := 16) rfl (v := (.ref a2)) rfl rfl ?_
  refine own_callV X23 (C := "com/example/strom/strom/journal/Record") (a := a2) (argsL := []) (S := [(.long w2), (.ref a1)]) (own_rm8 l Z a0 hw a2 a4 h4 n0 X23.2.2.2.2.2.2.2.2.1 A12 F16) A12 (hw _ (List.mem_of_getElem? (i := 48) rfl)) (hw _ (List.mem_of_getElem? (i := 49) rfl)) (hw _ (List.mem_of_getElem? (i := 51) rfl)) (hw _ (List.mem_of_getElem? (i := 50) rfl)) (hw _ (List.mem_of_getElem? (i := 3) rfl)) (hw _ (List.mem_of_getElem? (i := 52) rfl)) (by decide) (by decide) 3 (by decide) rfl own_pd2 rfl rfl (Nat.le_of_eq rfl) (by decide) (by decide) own_d7_16 (pc' := 19) rfl rfl fun T24 h25 lc26 r27 X28 Q29 => ?_
  obtain ⟨rfl, e30⟩ := Q29
  replace e30 := e30.symm
  subst e30
  show own_E p e below _ (T24.setTop (mkF m 19 #[.val (.ref a1), .val (.ref a2)] [(.ref a4), (.long w2), (.ref a1)]))
  refine own_alen X28 V9 own_d7_19 (pc' := 20) rfl ?_
  refine own_aloadN X28 own_d7_20 (pc' := 21) rfl (v := (.ref a2)) rfl rfl ?_
  refine own_callV X28 (C := "com/example/strom/strom/journal/Record") (a := a2) (argsL := []) (S := [(.int z4), (.long w2), (.ref a1)]) (own_rm9 l Z a0 hw a2 a5 h4 n0 X28.2.2.2.2.2.2.2.2.1 A12 F17) A12 (hw _ (List.mem_of_getElem? (i := 53) rfl)) (hw _ (List.mem_of_getElem? (i := 54) rfl)) (hw _ (List.mem_of_getElem? (i := 56) rfl)) (hw _ (List.mem_of_getElem? (i := 55) rfl)) (hw _ (List.mem_of_getElem? (i := 3) rfl)) (hw _ (List.mem_of_getElem? (i := 57) rfl)) (by decide) (by decide) 4 (by decide) rfl own_pd2 rfl rfl (Nat.le_of_eq rfl) (by decide) (by decide) own_d7_21 (pc' := 24) rfl rfl fun T31 h32 lc33 r34 X35 Q36 => ?_
  obtain ⟨rfl, e37⟩ := Q36
  replace e37 := e37.symm
  subst e37
  show own_E p e below _ (T31.setTop (mkF m 24 #[.val (.ref a1), .val (.ref a2)] [(.ref a5), (.int z4), (.long w2), (.ref a1)]))
  refine own_alen X35 V10 own_d7_24 (pc' := 25) rfl ?_
  refine own_iadd X35 own_d7_25 (pc' := 26) rfl (z := (z4 + z5)) rfl ?_
  refine own_i2l X35 own_d7_26 (pc' := 27) rfl (z := ((z4 + z5).toInt64)) rfl ?_
  refine own_lsub X35 own_d7_27 (pc' := 28) rfl (z := (w2 - ((z4 + z5).toInt64))) rfl ?_
  refine own_putF X35 (hw _ (List.mem_of_getElem? (i := 35) rfl)) F15 A11 (Or.inl (hw _ (List.mem_of_getElem? (i := 36) rfl))) (hw _ (List.mem_of_getElem? (i := 22) rfl)) (ty := .long) (by decide) rfl rfl g_a1 own_d7_28 (pc' := 31) rfl fun T38 h39 lc41 X40 W42 F43 => ?_
  have V44 := V9.other W42 n41
  have V45 := V10.other W42 n51
  have A46 := Exa.wr W42 A11
  have A47 := Exa.wr W42 A12
  have A48 := Exa.wr W42 A13
  have F49 := Fld.other W42 F14 (Or.inr (slot_ne (Or.inr (hw _ (List.mem_of_getElem? (i := 32) rfl))) (Or.inl (hw _ (List.mem_of_getElem? (i := 36) rfl))) (by decide) (t := (.object "com/example/strom/strom/broker/ReadAllowance")) (t' := .long) (by decide) (by decide)))
  have F50 := Fld.other W42 F8 (Or.inr (slot_ne (Or.inl (hw _ (List.mem_of_getElem? (i := 34) rfl))) (Or.inl (hw _ (List.mem_of_getElem? (i := 36) rfl))) (by decide) (t := .int) (t' := .long) (by decide) (by decide)))
  have F51 := Fld.other W42 F16 (Or.inl n21)
  have F52 := Fld.other W42 F17 (Or.inl n21)
  have F53 := Fld.other W42 F18 (Or.inl n31)
  have F54 := Fld.other W42 F19 (Or.inl n31)
  have F55 := Fld.other W42 F20 (Or.inl n31)
  have K56 := Keep.wr K21 W42 (Or.inl (List.mem_of_getElem? (i := 0) rfl))
  refine own_aloadN X40 own_d7_31 (pc' := 32) rfl (v := (.ref a1)) rfl rfl ?_
  refine own_getF X40 (hw _ (List.mem_of_getElem? (i := 31) rfl)) F49 own_d7_32 (pc' := 35) rfl fun T57 X58 => ?_
  refine own_ifnullN X58 own_d7_35 (pc' := 38) rfl ?_
  refine own_aloadN X58 own_d7_38 (pc' := 39) rfl (v := (.ref a1)) rfl rfl ?_
  refine own_getF X58 (hw _ (List.mem_of_getElem? (i := 31) rfl)) F49 own_d7_39 (pc' := 42) rfl fun T59 X60 => ?_
  refine own_aloadN X60 own_d7_42 (pc' := 43) rfl (v := (.ref a2)) rfl rfl ?_
  refine own_callV X60 (C := "com/example/strom/strom/broker/ReadAllowance") (a := a3) (argsL := [(.ref a2)]) (S := []) (own_rm7 l Z a0 hw a3 w3 w4 a2 a4 a5 z4 xs_a4 z5 xs_a5 h39 n0 X60.2.2.2.2.2.2.2.2.1 A48 F53 F54 F55 A47 F51 F52 V44 V45 n23 n43 n53 g_a3) A48 (hw _ (List.mem_of_getElem? (i := 58) rfl)) (hw _ (List.mem_of_getElem? (i := 44) rfl)) (hw _ (List.mem_of_getElem? (i := 46) rfl)) (hw _ (List.mem_of_getElem? (i := 45) rfl)) (hw _ (List.mem_of_getElem? (i := 23) rfl)) (hw _ (List.mem_of_getElem? (i := 47) rfl)) (by decide) (by decide) 0 (by decide) rfl own_pd3 rfl rfl (Nat.le_of_eq rfl) (by decide) (by decide) own_d7_43 (pc' := 46) rfl rfl fun T61 h62 lc63 r64 X65 Q66 => ?_
  obtain ⟨rfl, K67, F68, F69, F70⟩ := Q66
  have V71 := V44.keep K67 (ninS n43 nin0)
  have V72 := V45.keep K67 (ninS n53 nin0)
  have A73 := Exa.keep A46 K67
  have A74 := Exa.keep A47 K67
  have A75 := Exa.keep A48 K67
  have F76 := Fld.keep F49 K67 (ninS (Ne.symm n31) nin0)
  have F77 := Fld.keep F50 K67 (ninS (Ne.symm n31) nin0)
  have F78 := Fld.keep F43 K67 (ninS (Ne.symm n31) nin0)
  have F79 := Fld.keep F51 K67 (ninS n23 nin0)
  have F80 := Fld.keep F52 K67 (ninS n23 nin0)
  have K81 := Keep.trans K56 K67 (allS (Or.inl (List.mem_of_getElem? (i := 1) rfl)) all0)
  show own_E p e below _ (T61.setTop (mkF m 46 #[.val (.ref a1), .val (.ref a2)] []))
  refine own_vret X65 hret own_d7_46 (by decide) (by decide) ?_
  exact ⟨rfl, K81, F78, F77, F76, F68, F69, F70⟩
theorem own_d10_0 : decode prog_4_method_4_code 0 = .ok (.aload_n 0, 1) := by decide +kernel
theorem own_d10_1 : decode prog_4_method_4_code 1 = .ok (.getfield 16, 3) := by decide +kernel
theorem own_d10_4 : decode prog_4_method_4_code 4 = .ok (.ifCond .le 33, 3) := by decide +kernel
theorem own_d10_7 : decode prog_4_method_4_code 7 = .ok (.aload_n 0, 1) := by decide +kernel
theorem own_d10_8 : decode prog_4_method_4_code 8 = .ok (.getfield 20, 3) := by decide +kernel
theorem own_d10_11 : decode prog_4_method_4_code 11 = .ok (.lconst 0, 1) := by decide +kernel
theorem own_d10_12 : decode prog_4_method_4_code 12 = .ok (.lcmp, 1) := by decide +kernel
theorem own_d10_13 : decode prog_4_method_4_code 13 = .ok (.ifCond .le 24, 3) := by decide +kernel
theorem own_d10_16 : decode prog_4_method_4_code 16 = .ok (.aload_n 0, 1) := by decide +kernel
theorem own_d10_17 : decode prog_4_method_4_code 17 = .ok (.getfield 12, 3) := by decide +kernel
theorem own_d10_20 : decode prog_4_method_4_code 20 = .ok (.ifnull 13, 3) := by decide +kernel
theorem own_d10_33 : decode prog_4_method_4_code 33 = .ok (.iconst 1, 1) := by decide +kernel
theorem own_d10_34 : decode prog_4_method_4_code 34 = .ok (.goto 4, 3) := by decide +kernel
theorem own_d10_37 : decode prog_4_method_4_code 37 = .ok (.iconst 0, 1) := by decide +kernel
theorem own_d10_38 : decode prog_4_method_4_code 38 = .ok (.ireturn, 1) := by decide +kernel
theorem own_ef10 (a1 : Addr) (m : MethodId) : entryFrame m #[(.ref a1)] 1 = mkF m 0 #[.val (.ref a1)] [] := by first | (simp [entryFrame, mkF, argsToLocals, Value.category]; done) | rfl
theorem own_pf10 : plainFor (⟨"com/example/strom/strom/broker/ReadAllowance", "isLeft", "()Z"⟩ : MethodName) = true := by first | exact plainFor_of_name (by first | (simp [plainName, overriddenIn]; done) | decide +kernel) | decide +kernel
def own_F10 (w1 : Int32) (w2 : Int64) : Int32 := (if (0 : Int32) < w1 then (if (0 : Int64) < w2 then (1 : Int32) else (0 : Int32)) else (0 : Int32))
set_option maxRecDepth 65536 in
set_option maxHeartbeats 40000000 in
theorem own_rm10 (l : Launch) (Z : State) (a0 : Array Value) (hw : ∀ d ∈ tables_1, d.before a0 Z = true) (a1 : Addr) (w1 : Int32) (w2 : Int64) (h0 : Heap) (n0 : Nat) (Z0 : n0 ≤ h0.size) (E_a1 : Exa Z h0 a1 "com/example/strom/strom/broker/ReadAllowance") (F_whole_a1 : Fld Z h0 a1 "com/example/strom/strom/broker/ReadAllowance" "whole" "Lcom/example/strom/strom/broker/ReadAllowance;" .null) (F_records_a1 : Fld Z h0 a1 "com/example/strom/strom/broker/ReadAllowance" "records" "I" (.int w1)) (F_bytes_a1 : Fld Z h0 a1 "com/example/strom/strom/broker/ReadAllowance" "bytes" "J" (.long w2)) :
    own_Con l Z (⟨"com/example/strom/strom/broker/ReadAllowance", "isLeft", "()Z"⟩ : MethodName) prog_4_method_4_code 1 (some .boolean) ({ frames := 0, cells := 0, slots := 0, locals := 0 } : Room) #[(.ref a1)] h0 n0 (fun v h => v = some (.int (own_F10 w1 w2)) ∧ h = h0) := by
  refine own_enter own_pf10 Z0 (own_ef10 a1) ?_
  intro p e s m below meth c T0 X0 hret hnm
  refine own_aloadN X0 own_d10_0 (pc' := 1) rfl (v := (.ref a1)) rfl rfl ?_
  refine own_getF X0 (hw _ (List.mem_of_getElem? (i := 33) rfl)) F_records_a1 own_d10_1 (pc' := 4) rfl fun T1 X2 => ?_
  by_cases hc3 : (0 : Int32) < w1
  · refine own_ifN X2 own_d10_4 (tlt hc3).2.2.2 (pc' := 7) rfl ?_
    refine own_aloadN X2 own_d10_7 (pc' := 8) rfl (v := (.ref a1)) rfl rfl ?_
    refine own_getF X2 (hw _ (List.mem_of_getElem? (i := 35) rfl)) F_bytes_a1 own_d10_8 (pc' := 11) rfl fun T4 X5 => ?_
    refine own_lconst X5 own_d10_11 (pc' := 12) rfl (z := (0 : Int64)) rfl ?_
    by_cases hc6 : (0 : Int64) < w2
    · refine own_ljN X5 own_d10_12 rfl own_d10_13 (own_tltL hc6).2.2.2 (pc' := 16) rfl ?_
      refine own_aloadN X5 own_d10_16 (pc' := 17) rfl (v := (.ref a1)) rfl rfl ?_
      refine own_getF X5 (hw _ (List.mem_of_getElem? (i := 31) rfl)) F_whole_a1 own_d10_17 (pc' := 20) rfl fun T7 X8 => ?_
      refine own_ifnullY X8 own_d10_20 (by decide) (pc' := 33) rfl ?_
      refine own_iconst X8 own_d10_33 (pc' := 34) rfl (z := (1 : Int32)) rfl ?_
      refine own_goto X8 own_d10_34 (by decide) (pc' := 38) rfl ?_
      refine own_iret X8 (t := .boolean) (w := (1 : Int32)) hret (by simp) own_d10_38 rfl (by decide) (by decide) ?_
      exact ⟨congrArg (fun t => some (Value.int t)) (show (1 : Int32) = own_F10 w1 w2 from (by rw [own_F10, if_pos hc3, if_pos hc6])), rfl⟩
    · refine own_ljY X5 own_d10_12 rfl own_d10_13 (own_fltL hc6).2.2.2 (by decide) (pc' := 37) rfl ?_
      refine own_iconst X5 own_d10_37 (pc' := 38) rfl (z := (0 : Int32)) rfl ?_
      refine own_iret X5 (t := .boolean) (w := (0 : Int32)) hret (by simp) own_d10_38 rfl (by decide) (by decide) ?_
      exact ⟨congrArg (fun t => some (Value.int t)) (show (0 : Int32) = own_F10 w1 w2 from (by rw [own_F10, if_pos hc3, if_neg hc6])), rfl⟩
  · refine own_ifY X2 own_d10_4 (flt hc3).2.2.2 (by decide) (pc' := 37) rfl ?_
    refine own_iconst X2 own_d10_37 (pc' := 38) rfl (z := (0 : Int32)) rfl ?_
    refine own_iret X2 (t := .boolean) (w := (0 : Int32)) hret (by simp) own_d10_38 rfl (by decide) (by decide) ?_
    exact ⟨congrArg (fun t => some (Value.int t)) (show (0 : Int32) = own_F10 w1 w2 from (by rw [own_F10, if_neg hc3])), rfl⟩
theorem own_pd4 : parseMethodDescriptor "()Z" = some ⟨[], some .boolean⟩ := by decide +kernel
theorem own_d10_23 : decode prog_4_method_4_code 23 = .ok (.aload_n 0, 1) := by decide +kernel
theorem own_d10_24 : decode prog_4_method_4_code 24 = .ok (.getfield 12, 3) := by decide +kernel
theorem own_d10_27 : decode prog_4_method_4_code 27 = .ok (.invokevirtual 24, 3) := by decide +kernel
theorem own_d10_30 : decode prog_4_method_4_code 30 = .ok (.ifCond .eq 7, 3) := by decide +kernel
theorem own_ef10w (a1 : Addr) (m : MethodId) : entryFrame m #[(.ref a1)] 1 = mkF m 0 #[.val (.ref a1)] [] := by first | (simp [entryFrame, mkF, argsToLocals, Value.category]; done) | rfl
def own_F10w (w1 : Int32) (w2 : Int64) (w3 : Int32) (w4 : Int64) : Int32 := (if (0 : Int32) < w1 then (if (0 : Int64) < w2 then (if (own_F10 w3 w4) = (0 : Int32) then (0 : Int32) else (1 : Int32)) else (0 : Int32)) else (0 : Int32))
set_option maxRecDepth 65536 in
set_option maxHeartbeats 40000000 in
theorem own_rm10w (l : Launch) (Z : State) (a0 : Array Value) (hw : ∀ d ∈ tables_1, d.before a0 Z = true) (a1 : Addr) (a3 : Addr) (w1 : Int32) (w2 : Int64) (w3 : Int32) (w4 : Int64) (h0 : Heap) (n0 : Nat) (Z0 : n0 ≤ h0.size) (E_a1 : Exa Z h0 a1 "com/example/strom/strom/broker/ReadAllowance") (F_whole_a1 : Fld Z h0 a1 "com/example/strom/strom/broker/ReadAllowance" "whole" "Lcom/example/strom/strom/broker/ReadAllowance;" (.ref a3)) (F_records_a1 : Fld Z h0 a1 "com/example/strom/strom/broker/ReadAllowance" "records" "I" (.int w1)) (F_bytes_a1 : Fld Z h0 a1 "com/example/strom/strom/broker/ReadAllowance" "bytes" "J" (.long w2)) (E_a3 : Exa Z h0 a3 "com/example/strom/strom/broker/ReadAllowance") (F_whole_a3 : Fld Z h0 a3 "com/example/strom/strom/broker/ReadAllowance" "whole" "Lcom/example/strom/strom/broker/ReadAllowance;" .null) (F_records_a3 : Fld Z h0 a3 "com/example/strom/strom/broker/ReadAllowance" "records" "I" (.int w3)) (F_bytes_a3 : Fld Z h0 a3 "com/example/strom/strom/broker/ReadAllowance" "bytes" "J" (.long w4)) :
    own_Con l Z (⟨"com/example/strom/strom/broker/ReadAllowance", "isLeft", "()Z"⟩ : MethodName) prog_4_method_4_code 1 (some .boolean) ({ frames := 1, cells := 0, slots := 0, locals := 12 } : Room) #[(.ref a1)] h0 n0 (fun v h => v = some (.int (own_F10w w1 w2 w3 w4)) ∧ h = h0) := by
  refine own_enter own_pf10 Z0 (own_ef10w a1) ?_
  intro p e s m below meth c T0 X0 hret hnm
  refine own_aloadN X0 own_d10_0 (pc' := 1) rfl (v := (.ref a1)) rfl rfl ?_
  refine own_getF X0 (hw _ (List.mem_of_getElem? (i := 33) rfl)) F_records_a1 own_d10_1 (pc' := 4) rfl fun T1 X2 => ?_
  by_cases hc3 : (0 : Int32) < w1
  · refine own_ifN X2 own_d10_4 (tlt hc3).2.2.2 (pc' := 7) rfl ?_
    refine own_aloadN X2 own_d10_7 (pc' := 8) rfl (v := (.ref a1)) rfl rfl ?_
    refine own_getF X2 (hw _ (List.mem_of_getElem? (i := 35) rfl)) F_bytes_a1 own_d10_8 (pc' := 11) rfl fun T4 X5 => ?_
    refine own_lconst X5 own_d10_11 (pc' := 12) rfl (z := (0 : Int64)) rfl ?_
    by_cases hc6 : (0 : Int64) < w2
    · refine own_ljN X5 own_d10_12 rfl own_d10_13 (own_tltL hc6).2.2.2 (pc' := 16) rfl ?_
      refine own_aloadN X5 own_d10_16 (pc' := 17) rfl (v := (.ref a1)) rfl rfl ?_
      refine own_getF X5 (hw _ (List.mem_of_getElem? (i := 31) rfl)) F_whole_a1 own_d10_17 (pc' := 20) rfl fun T7 X8 => ?_
      refine own_ifnullN X8 own_d10_20 (pc' := 23) rfl ?_
      refine own_aloadN X8 own_d10_23 (pc' := 24) rfl (v := (.ref a1)) rfl rfl ?_
      refine own_getF X8 (hw _ (List.mem_of_getElem? (i := 31) rfl)) F_whole_a1 own_d10_24 (pc' := 27) rfl fun T9 X10 => ?_
      refine own_callV X10 (C := "com/example/strom/strom/broker/ReadAllowance") (a := a3) (argsL := []) (S := []) (own_rm10 l Z a0 hw a3 w3 w4 h0 n0 X10.2.2.2.2.2.2.2.2.1 E_a3 F_whole_a3 F_records_a3 F_bytes_a3) E_a3 (hw _ (List.mem_of_getElem? (i := 64) rfl)) (hw _ (List.mem_of_getElem? (i := 60) rfl)) (hw _ (List.mem_of_getElem? (i := 62) rfl)) (hw _ (List.mem_of_getElem? (i := 61) rfl)) (hw _ (List.mem_of_getElem? (i := 23) rfl)) (hw _ (List.mem_of_getElem? (i := 63) rfl)) (by decide) (by decide) 0 (by decide) rfl own_pd4 rfl rfl (Nat.le_of_eq rfl) (by decide) (by decide) own_d10_27 (pc' := 30) rfl rfl fun T11 h12 lc13 r14 X15 Q16 => ?_
      obtain ⟨rfl, e17⟩ := Q16
      replace e17 := e17.symm
      subst e17
      show own_E p e below _ (T11.setTop (mkF m 30 #[.val (.ref a1)] [(.int (own_F10 w3 w4))]))
      by_cases hc18 : (own_F10 w3 w4) = (0 : Int32)
      · refine own_ifY X15 own_d10_30 (teq hc18).1 (by decide) (pc' := 37) rfl ?_
        refine own_iconst X15 own_d10_37 (pc' := 38) rfl (z := (0 : Int32)) rfl ?_
        refine own_iret X15 (t := .boolean) (w := (0 : Int32)) hret (by simp) own_d10_38 rfl (by decide) (by decide) ?_
        exact ⟨congrArg (fun t => some (Value.int t)) (show (0 : Int32) = own_F10w w1 w2 w3 w4 from (by rw [own_F10w, if_pos hc3, if_pos hc6, if_pos hc18])), rfl⟩
      · refine own_ifN X15 own_d10_30 (feq hc18).1 (pc' := 33) rfl ?_
        refine own_iconst X15 own_d10_33 (pc' := 34) rfl (z := (1 : Int32)) rfl ?_
        refine own_goto X15 own_d10_34 (by decide) (pc' := 38) rfl ?_
        refine own_iret X15 (t := .boolean) (w := (1 : Int32)) hret (by simp) own_d10_38 rfl (by decide) (by decide) ?_
        exact ⟨congrArg (fun t => some (Value.int t)) (show (1 : Int32) = own_F10w w1 w2 w3 w4 from (by rw [own_F10w, if_pos hc3, if_pos hc6, if_neg hc18])), rfl⟩
    · refine own_ljY X5 own_d10_12 rfl own_d10_13 (own_fltL hc6).2.2.2 (by decide) (pc' := 37) rfl ?_
      refine own_iconst X5 own_d10_37 (pc' := 38) rfl (z := (0 : Int32)) rfl ?_
      refine own_iret X5 (t := .boolean) (w := (0 : Int32)) hret (by simp) own_d10_38 rfl (by decide) (by decide) ?_
      exact ⟨congrArg (fun t => some (Value.int t)) (show (0 : Int32) = own_F10w w1 w2 w3 w4 from (by rw [own_F10w, if_pos hc3, if_neg hc6])), rfl⟩
  · refine own_ifY X2 own_d10_4 (flt hc3).2.2.2 (by decide) (pc' := 37) rfl ?_
    refine own_iconst X2 own_d10_37 (pc' := 38) rfl (z := (0 : Int32)) rfl ?_
    refine own_iret X2 (t := .boolean) (w := (0 : Int32)) hret (by simp) own_d10_38 rfl (by decide) (by decide) ?_
    exact ⟨congrArg (fun t => some (Value.int t)) (show (0 : Int32) = own_F10w w1 w2 w3 w4 from (by rw [own_F10w, if_neg hc3])), rfl⟩
theorem own_pd5 : parseMethodDescriptor "(J[B[B)V" = some ⟨[.long, (.array .byte), (.array .byte)], none⟩ := by decide +kernel
theorem own_pd6 : parseMethodDescriptor "(IJ)V" = some ⟨[.int, .long], none⟩ := by decide +kernel
theorem own_pd7 : parseMethodDescriptor "(IJ)Lcom/example/strom/strom/broker/ReadAllowance;" = some ⟨[.int, .long], some (.object "com/example/strom/strom/broker/ReadAllowance")⟩ := by decide +kernel
theorem own_ef0 (p1 : Int32) (q2 : Int64) (p3 : Int32) (q4 : Int64) (p5 : Int32) (p6 : Int32) (m : MethodId) : entryFrame m #[(.int p1), (.long q2), (.int p3), (.long q4), (.int p5), (.int p6)] maxLocals = mkF m 0 #[.val (.int p1), .val (.long q2), .second, .val (.int p3), .val (.long q4), .second, .val (.int p5), .val (.int p6), .unset, .unset, .unset, .unset, .unset, .unset, .unset, .unset, .unset, .unset, .unset, .unset, .unset, .unset, .unset, .unset, .unset, .unset, .unset] [] := by first | (simp [entryFrame, mkF, argsToLocals, Value.category, maxLocals]; done) | rfl
theorem own_pf0 : plainFor x = true := by first | exact plainFor_of_name (by first | (simp [plainName, overriddenIn]; done) | decide +kernel) | decide +kernel
def own_j0_12 (p6 : Int32) : Int32 := (if (p6 &&& (1 : Int32)) = (0 : Int32) then (0 : Int32) else (1 : Int32))
def own_j0_26 (p6 : Int32) : Int32 := (if (p6 &&& (2 : Int32)) = (0 : Int32) then (0 : Int32) else (1 : Int32))
def own_v0_42 (p5 : Int32) : Int32 := (((p5.toUInt32 >>> (3 : UInt32)).toInt32) &&& (7 : Int32))
def own_v0_124 (p5 : Int32) : Int64 := (((p5 &&& (7 : Int32)) + (own_v0_42 p5)).toInt64)
def own_j0_213 (p1 : Int32) (q2 : Int64) : Int32 := (if (0 : Int32) < p1 then (if (0 : Int64) < q2 then (1 : Int32) else (0 : Int32)) else (0 : Int32))
def own_j0_237 (p1 : Int32) (q2 : Int64) (p3 : Int32) (q4 : Int64) : Int32 := (if (0 : Int32) < p3 then (if (0 : Int64) < q4 then (if (own_j0_213 p1 q2) = (0 : Int32) then (0 : Int32) else (1 : Int32)) else (0 : Int32)) else (0 : Int32))
def own_j0_213_1 (p1 : Int32) (q2 : Int64) (p5 : Int32) : Int32 := (if (0 : Int32) < (p1 - (1 : Int32)) then (if (0 : Int64) < (q2 - (own_v0_124 p5)) then (1 : Int32) else (0 : Int32)) else (0 : Int32))
def own_j0_237_1 (p1 : Int32) (q2 : Int64) (p3 : Int32) (q4 : Int64) (p5 : Int32) : Int32 := (if (0 : Int32) < p3 then (if (0 : Int64) < q4 then (if (own_j0_213_1 p1 q2 p5) = (0 : Int32) then (0 : Int32) else (1 : Int32)) else (0 : Int32)) else (0 : Int32))
def own_v0_241 (p1 : Int32) (q2 : Int64) (p5 : Int32) : Int32 := (own_F10 (p1 - (1 : Int32)) (q2 - (((p5 &&& (7 : Int32)) + (own_v0_42 p5)).toInt64)))
def own_v0_251 (p1 : Int32) (q2 : Int64) (p3 : Int32) (q4 : Int64) (p5 : Int32) : Int32 := (own_F10w p3 q4 (p1 - (1 : Int32)) (q2 - (((p5 &&& (7 : Int32)) + (own_v0_42 p5)).toInt64)))
def own_j0_237_2 (p1 : Int32) (q2 : Int64) (p3 : Int32) (q4 : Int64) (p5 : Int32) : Int32 := (if (0 : Int32) < (p3 - (1 : Int32)) then (if (0 : Int64) < (q4 - (own_v0_124 p5)) then (if (own_j0_213_1 p1 q2 p5) = (0 : Int32) then (0 : Int32) else (1 : Int32)) else (0 : Int32)) else (0 : Int32))
def own_v0_251_1 (p1 : Int32) (q2 : Int64) (p3 : Int32) (q4 : Int64) (p5 : Int32) : Int32 := (own_F10w (p3 - (1 : Int32)) (q4 - (((p5 &&& (7 : Int32)) + (own_v0_42 p5)).toInt64)) (p1 - (1 : Int32)) (q2 - (((p5 &&& (7 : Int32)) + (own_v0_42 p5)).toInt64)))
def own_F0 (p1 : Int32) (q2 : Int64) (p3 : Int32) (q4 : Int64) (p5 : Int32) (p6 : Int32) : Int32 := (if (own_j0_26 p6) = (0 : Int32) then (if (own_F10 p1 q2) = (own_j0_213 p1 q2) then (if (own_F10w p3 q4 p1 q2) = (own_j0_237 p1 q2 p3 q4) then (1 : Int32) else (0 : Int32)) else (0 : Int32)) else (if (own_j0_12 p6) = (0 : Int32) then (if (own_v0_241 p1 q2 p5) = (own_j0_213_1 p1 q2 p5) then (if (own_v0_251 p1 q2 p3 q4 p5) = (own_j0_237_1 p1 q2 p3 q4 p5) then (1 : Int32) else (0 : Int32)) else (0 : Int32)) else (if (own_v0_241 p1 q2 p5) = (own_j0_213_1 p1 q2 p5) then (if (own_v0_251_1 p1 q2 p3 q4 p5) = (own_j0_237_2 p1 q2 p3 q4 p5) then (1 : Int32) else (0 : Int32)) else (0 : Int32))))
-- LEMMAS
theorem own_c1 (p : Int32) : 0 ≤ (p &&& 7).toInt ∧ (p &&& 7).toInt ≤ 7 := by
  have a1 : (p &&& 7).toInt = p.toInt % 8 := own_mk (k := 3) (by decide) (by decide)
  omega
theorem own_cn (p : Int32) : ¬ (p &&& 7) < (0 : Int32) := by
  have := own_c1 p
  have e0 : (0 : Int32).toInt = 0 := rfl
  rw [own_lt]; omega
theorem own_cc (p : Int32) : (p &&& 7).toNatClampNeg ≤ 7 := by
  have := own_c1 p
  simp only [Int32.toNatClampNeg]; omega
-- END LEMMAS
set_option maxRecDepth 65536 in
set_option maxHeartbeats 40000000 in
theorem own_rm0 (l : Launch) (Z : State) (a0 : Array Value) (hw : ∀ d ∈ tables_1, d.before a0 Z = true) (p1 : Int32) (q2 : Int64) (p3 : Int32) (q4 : Int64) (p5 : Int32) (p6 : Int32) (h0 : Heap) (n0 : Nat) (Z0 : n0 ≤ h0.size) :
    own_Con l Z x code maxLocals ret room_1 #[(.int p1), (.long q2), (.int p3), (.long q4), (.int p5), (.int p6)] h0 n0 (fun v h => v = some (.int (own_F0 p1 q2 p3 q4 p5 p6))) := by
  refine own_enter own_pf0 Z0 (own_ef0 p1 q2 p3 q4 p5 p6) ?_
  intro p e s m below meth c T0 X0 hret hnm
  refine own_iload X0 at_0 (pc' := 2) rfl (v := p6) rfl ?_
  refine own_iconst X0 at_2 (pc' := 3) rfl (z := (1 : Int32)) rfl ?_
  refine own_iand X0 at_3 (pc' := 4) rfl (z := (p6 &&& (1 : Int32))) rfl ?_
  have K4 : ∀ T5 lc7, own_A l Z "com/example/strom/strom/broker/ReadAllowanceIsLeftPinLaw" code maxLocals n0 p e room_1 s m #[(.int p1), (.long q2), (.int p3), (.long q4), (.int p5), (.int p6)] below meth c T5 h0 lc7 0 0 → own_E p e below (own_G room_1 s n0 (fun v h => v = some (.int (own_F0 p1 q2 p3 q4 p5 p6)))) (T5.setTop (mkF m 12 #[.val (.int p1), .val (.long q2), .second, .val (.int p3), .val (.long q4), .second, .val (.int p5), .val (.int p6), .unset, .unset, .unset, .unset, .unset, .unset, .unset, .unset, .unset, .unset, .unset, .unset, .unset, .unset, .unset, .unset, .unset, .unset, .unset] [(.int (own_j0_12 p6))])) := by
    intro T5 lc7 X6
    refine own_istore X6 at_12 (pc' := 14) rfl (y := (own_j0_12 p6)) rfl (Ls' := #[.val (.int p1), .val (.long q2), .second, .val (.int p3), .val (.long q4), .second, .val (.int p5), .val (.int p6), .val (.int (own_j0_12 p6)), .unset, .unset, .unset, .unset, .unset, .unset, .unset, .unset, .unset, .unset, .unset, .unset, .unset, .unset, .unset, .unset, .unset, .unset]) rfl ?_
    refine own_iload X6 at_14 (pc' := 16) rfl (v := p6) rfl ?_
    refine own_iconst X6 at_16 (pc' := 17) rfl (z := (2 : Int32)) rfl ?_
    refine own_iand X6 at_17 (pc' := 18) rfl (z := (p6 &&& (2 : Int32))) rfl ?_
    have K11 : ∀ T12 lc14, own_A l Z "com/example/strom/strom/broker/ReadAllowanceIsLeftPinLaw" code maxLocals n0 p e room_1 s m #[(.int p1), (.long q2), (.int p3), (.long q4), (.int p5), (.int p6)] below meth c T12 h0 lc14 0 0 → own_E p e below (own_G room_1 s n0 (fun v h => v = some (.int (own_F0 p1 q2 p3 q4 p5 p6)))) (T12.setTop (mkF m 26 #[.val (.int p1), .val (.long q2), .second, .val (.int p3), .val (.long q4), .second, .val (.int p5), .val (.int p6), .val (.int (own_j0_12 p6)), .unset, .unset, .unset, .unset, .unset, .unset, .unset, .unset, .unset, .unset, .unset, .unset, .unset, .unset, .unset, .unset, .unset, .unset] [(.int (own_j0_26 p6))])) := by
      intro T12 lc14 X13
      refine own_istore X13 at_26 (pc' := 28) rfl (y := (own_j0_26 p6)) rfl (Ls' := #[.val (.int p1), .val (.long q2), .second, .val (.int p3), .val (.long q4), .second, .val (.int p5), .val (.int p6), .val (.int (own_j0_12 p6)), .val (.int (own_j0_26 p6)), .unset, .unset, .unset, .unset, .unset, .unset, .unset, .unset, .unset, .unset, .unset, .unset, .unset, .unset, .unset, .unset, .unset]) rfl ?_
      refine own_iload X13 at_28 (pc' := 30) rfl (v := p5) rfl ?_
      refine own_bipush X13 at_30 (pc' := 32) rfl (z := (7 : Int32)) rfl ?_
      refine own_iand X13 at_32 (pc' := 33) rfl (z := (p5 &&& (7 : Int32))) rfl ?_
      refine own_istore X13 at_33 (pc' := 35) rfl (y := (p5 &&& (7 : Int32))) rfl (Ls' := #[.val (.int p1), .val (.long q2), .second, .val (.int p3), .val (.long q4), .second, .val (.int p5), .val (.int p6), .val (.int (own_j0_12 p6)), .val (.int (own_j0_26 p6)), .val (.int (p5 &&& (7 : Int32))), .unset, .unset, .unset, .unset, .unset, .unset, .unset, .unset, .unset, .unset, .unset, .unset, .unset, .unset, .unset, .unset]) rfl ?_
      refine own_iload X13 at_35 (pc' := 37) rfl (v := p5) rfl ?_
      refine own_iconst X13 at_37 (pc' := 38) rfl (z := (3 : Int32)) rfl ?_
      refine own_iushr X13 at_38 (pc' := 39) rfl (z := ((p5.toUInt32 >>> (3 : UInt32)).toInt32)) rfl ?_
      refine own_bipush X13 at_39 (pc' := 41) rfl (z := (7 : Int32)) rfl ?_
      refine own_iand X13 at_41 (pc' := 42) rfl (z := (((p5.toUInt32 >>> (3 : UInt32)).toInt32) &&& (7 : Int32))) rfl ?_
      refine own_istore X13 at_42 (pc' := 44) rfl (y := (own_v0_42 p5)) rfl (Ls' := #[.val (.int p1), .val (.long q2), .second, .val (.int p3), .val (.long q4), .second, .val (.int p5), .val (.int p6), .val (.int (own_j0_12 p6)), .val (.int (own_j0_26 p6)), .val (.int (p5 &&& (7 : Int32))), .val (.int (own_v0_42 p5)), .unset, .unset, .unset, .unset, .unset, .unset, .unset, .unset, .unset, .unset, .unset, .unset, .unset, .unset, .unset]) rfl ?_
      refine own_iload X13 at_44 (pc' := 46) rfl (v := (p5 &&& (7 : Int32))) rfl ?_
      refine own_newV X13 rfl rfl (hw _ (List.mem_of_getElem? (i := 0) rfl)) (own_cn _) 7 (own_cc _) (by decide) (by decide) (by decide) at_46 (pc' := 48) rfl fun T16 h17 b15 X18 Ex19 hs20 g21 V22 => ?_
      refine own_astore X18 at_48 (pc' := 50) rfl rfl (Ls' := #[.val (.int p1), .val (.long q2), .second, .val (.int p3), .val (.long q4), .second, .val (.int p5), .val (.int p6), .val (.int (own_j0_12 p6)), .val (.int (own_j0_26 p6)), .val (.int (p5 &&& (7 : Int32))), .val (.int (own_v0_42 p5)), .val (.ref b15), .unset, .unset, .unset, .unset, .unset, .unset, .unset, .unset, .unset, .unset, .unset, .unset, .unset, .unset]) rfl ?_
      refine own_iload X18 at_50 (pc' := 52) rfl (v := (own_v0_42 p5)) rfl ?_
      refine own_newV X18 rfl rfl (hw _ (List.mem_of_getElem? (i := 0) rfl)) (own_cn _) 7 (own_cc _) (by decide) (by decide) (by decide) at_52 (pc' := 54) rfl fun T24 h25 b23 X26 Ex27 hs28 g29 V30 => ?_
      have ne31 : b15 ≠ b23 := Nat.ne_of_lt (Nat.lt_of_lt_of_eq V22.lt hs28)
      have V32 := V22.ext Ex27
      refine own_astore X26 at_54 (pc' := 56) rfl rfl (Ls' := #[.val (.int p1), .val (.long q2), .second, .val (.int p3), .val (.long q4), .second, .val (.int p5), .val (.int p6), .val (.int (own_j0_12 p6)), .val (.int (own_j0_26 p6)), .val (.int (p5 &&& (7 : Int32))), .val (.int (own_v0_42 p5)), .val (.ref b15), .val (.ref b23), .unset, .unset, .unset, .unset, .unset, .unset, .unset, .unset, .unset, .unset, .unset, .unset, .unset]) rfl ?_
      refine own_new X26 (hw _ (List.mem_of_getElem? (i := 1) rfl)) (hw _ (List.mem_of_getElem? (i := 2) rfl)) (hw _ (List.mem_of_getElem? (i := 3) rfl)) (by decide) (by decide) at_56 (pc' := 59) rfl fun T34 h35 b33 X36 Ex37 hs38 g39 A40 D41 => ?_
      have ne42 : b15 ≠ b33 := Nat.ne_of_lt (Nat.lt_of_lt_of_eq V32.lt hs38)
      have ne43 : b23 ≠ b33 := Nat.ne_of_lt (Nat.lt_of_lt_of_eq V30.lt hs38)
      have V44 := V32.ext Ex37
      have V45 := V30.ext Ex37
      have F46 : Fld Z h35 b33 "com/example/strom/strom/journal/Record" "sequence" "J" (.long (0 : Int64)) := D41 (Or.inr (hw _ (List.mem_of_getElem? (i := 16) rfl))) (ty := .long) (by decide)
      have F47 : Fld Z h35 b33 "com/example/strom/strom/journal/Record" "key" "[B" .null := D41 (Or.inr (hw _ (List.mem_of_getElem? (i := 18) rfl))) (ty := (.array .byte)) (by decide)
      have F48 : Fld Z h35 b33 "com/example/strom/strom/journal/Record" "body" "[B" .null := D41 (Or.inr (hw _ (List.mem_of_getElem? (i := 20) rfl))) (ty := (.array .byte)) (by decide)
      refine own_dup X36 at_59 (pc' := 60) rfl rfl ?_
      refine own_lconst X36 at_60 (pc' := 61) rfl (z := (0 : Int64)) rfl ?_
      refine own_aload X36 at_61 (pc' := 63) rfl (v := (.ref b15)) rfl rfl ?_
      refine own_aload X36 at_63 (pc' := 65) rfl (v := (.ref b23)) rfl rfl ?_
      refine own_callI X36 (a := b33) (argsL := [(.long (0 : Int64)), (.ref b15), (.ref b23)]) (S := [(.ref b33)]) (own_rm1 l Z a0 hw b33 (0 : Int64) b15 b23 h35 n0 X36.2.2.2.2.2.2.2.2.1 A40 F46 F47 F48 g39) rfl (hw _ (List.mem_of_getElem? (i := 4) rfl)) (hw _ (List.mem_of_getElem? (i := 5) rfl)) (hw _ (List.mem_of_getElem? (i := 3) rfl)) (hw _ (List.mem_of_getElem? (i := 6) rfl)) (by decide) (by decide) 1 (by decide) rfl own_pd5 rfl rfl (Nat.le_of_eq rfl) (by decide) (by decide) at_65 (pc' := 68) rfl fun T49 h50 lc51 r52 X53 Q54 => ?_
      obtain ⟨rfl, K55, F56, F57, F58⟩ := Q54
      have V59 := V44.keep K55 (ninS ne42 nin0)
      have V60 := V45.keep K55 (ninS ne43 nin0)
      have A61 := Exa.keep A40 K55
      show own_E p e below _ (T49.setTop (mkF m 68 #[.val (.int p1), .val (.long q2), .second, .val (.int p3), .val (.long q4), .second, .val (.int p5), .val (.int p6), .val (.int (own_j0_12 p6)), .val (.int (own_j0_26 p6)), .val (.int (p5 &&& (7 : Int32))), .val (.int (own_v0_42 p5)), .val (.ref b15), .val (.ref b23), .unset, .unset, .unset, .unset, .unset, .unset, .unset, .unset, .unset, .unset, .unset, .unset, .unset] [(.ref b33)]))
      refine own_astore X53 at_68 (pc' := 70) rfl rfl (Ls' := #[.val (.int p1), .val (.long q2), .second, .val (.int p3), .val (.long q4), .second, .val (.int p5), .val (.int p6), .val (.int (own_j0_12 p6)), .val (.int (own_j0_26 p6)), .val (.int (p5 &&& (7 : Int32))), .val (.int (own_v0_42 p5)), .val (.ref b15), .val (.ref b23), .val (.ref b33), .unset, .unset, .unset, .unset, .unset, .unset, .unset, .unset, .unset, .unset, .unset, .unset]) rfl ?_
      refine own_new X53 (hw _ (List.mem_of_getElem? (i := 21) rfl)) (hw _ (List.mem_of_getElem? (i := 22) rfl)) (hw _ (List.mem_of_getElem? (i := 23) rfl)) (by decide) (by decide) at_70 (pc' := 73) rfl fun T63 h64 b62 X65 Ex66 hs67 g68 A69 D70 => ?_
      have ne71 : b15 ≠ b62 := Nat.ne_of_lt (Nat.lt_of_lt_of_eq V59.lt hs67)
      have ne72 : b23 ≠ b62 := Nat.ne_of_lt (Nat.lt_of_lt_of_eq V60.lt hs67)
      have ne73 : b33 ≠ b62 := Nat.ne_of_lt (Nat.lt_of_lt_of_eq A61.lt hs67)
      have V74 := V59.ext Ex66
      have V75 := V60.ext Ex66
      have A76 := Exa.ext Ex66 A61
      have F77 := Fld.ext Ex66 F58
      have F78 := Fld.ext Ex66 F57
      have F79 := Fld.ext Ex66 F56
      have F80 : Fld Z h64 b62 "com/example/strom/strom/broker/ReadAllowance" "whole" "Lcom/example/strom/strom/broker/ReadAllowance;" .null := D70 (Or.inr (hw _ (List.mem_of_getElem? (i := 32) rfl))) (ty := (.object "com/example/strom/strom/broker/ReadAllowance")) (by decide)
      have F81 : Fld Z h64 b62 "com/example/strom/strom/broker/ReadAllowance" "records" "I" (.int (0 : Int32)) := D70 (Or.inl (hw _ (List.mem_of_getElem? (i := 34) rfl))) (ty := .int) (by decide)
      have F82 : Fld Z h64 b62 "com/example/strom/strom/broker/ReadAllowance" "bytes" "J" (.long (0 : Int64)) := D70 (Or.inl (hw _ (List.mem_of_getElem? (i := 36) rfl))) (ty := .long) (by decide)
      refine own_dup X65 at_73 (pc' := 74) rfl rfl ?_
      refine own_iloadN X65 at_74 (pc' := 75) rfl (v := p1) rfl ?_
      refine own_lloadN X65 at_75 (pc' := 76) rfl (v := q2) rfl ?_
      refine own_callI X65 (a := b62) (argsL := [(.int p1), (.long q2)]) (S := [(.ref b62)]) (own_rm4 l Z a0 hw b62 p1 q2 h64 n0 X65.2.2.2.2.2.2.2.2.1 A69 F80 F81 F82 g68) rfl (hw _ (List.mem_of_getElem? (i := 24) rfl)) (hw _ (List.mem_of_getElem? (i := 25) rfl)) (hw _ (List.mem_of_getElem? (i := 23) rfl)) (hw _ (List.mem_of_getElem? (i := 26) rfl)) (by decide) (by decide) 1 (by decide) rfl own_pd6 rfl rfl (Nat.le_of_eq rfl) (by decide) (by decide) at_76 (pc' := 79) rfl fun T83 h84 lc85 r86 X87 Q88 => ?_
      obtain ⟨rfl, K89, F90, F91, F92⟩ := Q88
      have V93 := V74.keep K89 (ninS ne71 nin0)
      have V94 := V75.keep K89 (ninS ne72 nin0)
      have A95 := Exa.keep A76 K89
      have A96 := Exa.keep A69 K89
      have F97 := Fld.keep F77 K89 (ninS ne73 nin0)
      have F98 := Fld.keep F78 K89 (ninS ne73 nin0)
      have F99 := Fld.keep F79 K89 (ninS ne73 nin0)
      show own_E p e below _ (T83.setTop (mkF m 79 #[.val (.int p1), .val (.long q2), .second, .val (.int p3), .val (.long q4), .second, .val (.int p5), .val (.int p6), .val (.int (own_j0_12 p6)), .val (.int (own_j0_26 p6)), .val (.int (p5 &&& (7 : Int32))), .val (.int (own_v0_42 p5)), .val (.ref b15), .val (.ref b23), .val (.ref b33), .unset, .unset, .unset, .unset, .unset, .unset, .unset, .unset, .unset, .unset, .unset, .unset] [(.ref b62)]))
      refine own_astore X87 at_79 (pc' := 81) rfl rfl (Ls' := #[.val (.int p1), .val (.long q2), .second, .val (.int p3), .val (.long q4), .second, .val (.int p5), .val (.int p6), .val (.int (own_j0_12 p6)), .val (.int (own_j0_26 p6)), .val (.int (p5 &&& (7 : Int32))), .val (.int (own_v0_42 p5)), .val (.ref b15), .val (.ref b23), .val (.ref b33), .val (.ref b62), .unset, .unset, .unset, .unset, .unset, .unset, .unset, .unset, .unset, .unset, .unset]) rfl ?_
      refine own_aload X87 at_81 (pc' := 83) rfl (v := (.ref b62)) rfl rfl ?_
      refine own_iloadN X87 at_83 (pc' := 84) rfl (v := p3) rfl ?_
      refine own_lload X87 at_84 (pc' := 86) rfl (v := q4) rfl ?_
      refine own_callV X87 (C := "com/example/strom/strom/broker/ReadAllowance") (a := b62) (argsL := [(.int p3), (.long q4)]) (S := []) (own_rm6 l Z a0 hw b62 p3 q4 h84 n0 X87.2.2.2.2.2.2.2.2.1 ) A96 (hw _ (List.mem_of_getElem? (i := 37) rfl)) (hw _ (List.mem_of_getElem? (i := 38) rfl)) (hw _ (List.mem_of_getElem? (i := 40) rfl)) (hw _ (List.mem_of_getElem? (i := 39) rfl)) (hw _ (List.mem_of_getElem? (i := 23) rfl)) (hw _ (List.mem_of_getElem? (i := 41) rfl)) (by decide) (by decide) 0 (by decide) rfl own_pd7 rfl rfl (Nat.le_of_eq rfl) (by decide) (by decide) at_86 (pc' := 89) rfl rfl fun T100 h101 lc102 r103 X104 Q105 => ?_
      obtain ⟨b106, rfl, g107, sz108, K109, A110, F111, F112, F113⟩ := Q105
      have ne114 : b15 ≠ b106 := Nat.ne_of_lt (Nat.lt_of_lt_of_le V93.lt sz108)
      have ne115 : b23 ≠ b106 := Nat.ne_of_lt (Nat.lt_of_lt_of_le V94.lt sz108)
      have ne116 : b33 ≠ b106 := Nat.ne_of_lt (Nat.lt_of_lt_of_le A95.lt sz108)
      have ne117 : b62 ≠ b106 := Nat.ne_of_lt (Nat.lt_of_lt_of_le A96.lt sz108)
      have V118 := V93.keep K109 nin0
      have V119 := V94.keep K109 nin0
      have A120 := Exa.keep A95 K109
      have A121 := Exa.keep A96 K109
      have F122 := Fld.keep F97 K109 nin0
      have F123 := Fld.keep F98 K109 nin0
      have F124 := Fld.keep F99 K109 nin0
      have F125 := Fld.keep F92 K109 nin0
      have F126 := Fld.keep F91 K109 nin0
      have F127 := Fld.keep F90 K109 nin0
      show own_E p e below _ (T100.setTop (mkF m 89 #[.val (.int p1), .val (.long q2), .second, .val (.int p3), .val (.long q4), .second, .val (.int p5), .val (.int p6), .val (.int (own_j0_12 p6)), .val (.int (own_j0_26 p6)), .val (.int (p5 &&& (7 : Int32))), .val (.int (own_v0_42 p5)), .val (.ref b15), .val (.ref b23), .val (.ref b33), .val (.ref b62), .unset, .unset, .unset, .unset, .unset, .unset, .unset, .unset, .unset, .unset, .unset] [(.ref b106)]))
      refine own_astore X104 at_89 (pc' := 91) rfl rfl (Ls' := #[.val (.int p1), .val (.long q2), .second, .val (.int p3), .val (.long q4), .second, .val (.int p5), .val (.int p6), .val (.int (own_j0_12 p6)), .val (.int (own_j0_26 p6)), .val (.int (p5 &&& (7 : Int32))), .val (.int (own_v0_42 p5)), .val (.ref b15), .val (.ref b23), .val (.ref b33), .val (.ref b62), .val (.ref b106), .unset, .unset, .unset, .unset, .unset, .unset, .unset, .unset, .unset, .unset]) rfl ?_
      refine own_iload X104 at_91 (pc' := 93) rfl (v := (own_j0_26 p6)) rfl ?_
      by_cases hc128 : (own_j0_26 p6) = (0 : Int32)
      · refine own_ifY X104 at_93 (teq hc128).1 (by decide) (pc' := 118) rfl ?_
        refine own_iload X104 at_118 (pc' := 120) rfl (v := (p5 &&& (7 : Int32))) rfl ?_
        refine own_iload X104 at_120 (pc' := 122) rfl (v := (own_v0_42 p5)) rfl ?_
        refine own_iadd X104 at_122 (pc' := 123) rfl (z := ((p5 &&& (7 : Int32)) + (own_v0_42 p5))) rfl ?_
        refine own_i2l X104 at_123 (pc' := 124) rfl (z := (((p5 &&& (7 : Int32)) + (own_v0_42 p5)).toInt64)) rfl ?_
        refine own_lstore X104 at_124 (pc' := 126) rfl (y := (own_v0_124 p5)) rfl (Ls' := #[.val (.int p1), .val (.long q2), .second, .val (.int p3), .val (.long q4), .second, .val (.int p5), .val (.int p6), .val (.int (own_j0_12 p6)), .val (.int (own_j0_26 p6)), .val (.int (p5 &&& (7 : Int32))), .val (.int (own_v0_42 p5)), .val (.ref b15), .val (.ref b23), .val (.ref b33), .val (.ref b62), .val (.ref b106), .val (.long (own_v0_124 p5)), .second, .unset, .unset, .unset, .unset, .unset, .unset, .unset, .unset]) rfl ?_
        refine own_iload X104 at_126 (pc' := 128) rfl (v := (own_j0_26 p6)) rfl ?_
        have hk129 : (own_j0_26 p6) = (0 : Int32) := hc128
        refine own_ifY X104 at_128 (teq hk129).1 (by decide) (pc' := 137) rfl ?_
        refine own_iloadN X104 at_137 (pc' := 138) rfl (v := p1) rfl ?_
        refine own_istore X104 at_138 (pc' := 140) rfl (y := p1) rfl (Ls' := #[.val (.int p1), .val (.long q2), .second, .val (.int p3), .val (.long q4), .second, .val (.int p5), .val (.int p6), .val (.int (own_j0_12 p6)), .val (.int (own_j0_26 p6)), .val (.int (p5 &&& (7 : Int32))), .val (.int (own_v0_42 p5)), .val (.ref b15), .val (.ref b23), .val (.ref b33), .val (.ref b62), .val (.ref b106), .val (.long (own_v0_124 p5)), .second, .val (.int p1), .unset, .unset, .unset, .unset, .unset, .unset, .unset]) rfl ?_
        refine own_iload X104 at_140 (pc' := 142) rfl (v := (own_j0_26 p6)) rfl ?_
        have hk130 : (own_j0_26 p6) = (0 : Int32) := hc128
        refine own_ifY X104 at_142 (teq hk130).1 (by decide) (pc' := 152) rfl ?_
        refine own_lloadN X104 at_152 (pc' := 153) rfl (v := q2) rfl ?_
        refine own_lstore X104 at_153 (pc' := 155) rfl (y := q2) rfl (Ls' := #[.val (.int p1), .val (.long q2), .second, .val (.int p3), .val (.long q4), .second, .val (.int p5), .val (.int p6), .val (.int (own_j0_12 p6)), .val (.int (own_j0_26 p6)), .val (.int (p5 &&& (7 : Int32))), .val (.int (own_v0_42 p5)), .val (.ref b15), .val (.ref b23), .val (.ref b33), .val (.ref b62), .val (.ref b106), .val (.long (own_v0_124 p5)), .second, .val (.int p1), .val (.long q2), .second, .unset, .unset, .unset, .unset, .unset]) rfl ?_
        refine own_iload X104 at_155 (pc' := 157) rfl (v := (own_j0_26 p6)) rfl ?_
        have hk131 : (own_j0_26 p6) = (0 : Int32) := hc128
        refine own_ifY X104 at_157 (teq hk131).1 (by decide) (pc' := 171) rfl ?_
        refine own_iloadN X104 at_171 (pc' := 172) rfl (v := p3) rfl ?_
        refine own_istore X104 at_172 (pc' := 174) rfl (y := p3) rfl (Ls' := #[.val (.int p1), .val (.long q2), .second, .val (.int p3), .val (.long q4), .second, .val (.int p5), .val (.int p6), .val (.int (own_j0_12 p6)), .val (.int (own_j0_26 p6)), .val (.int (p5 &&& (7 : Int32))), .val (.int (own_v0_42 p5)), .val (.ref b15), .val (.ref b23), .val (.ref b33), .val (.ref b62), .val (.ref b106), .val (.long (own_v0_124 p5)), .second, .val (.int p1), .val (.long q2), .second, .val (.int p3), .unset, .unset, .unset, .unset]) rfl ?_
        refine own_iload X104 at_174 (pc' := 176) rfl (v := (own_j0_26 p6)) rfl ?_
        have hk132 : (own_j0_26 p6) = (0 : Int32) := hc128
        refine own_ifY X104 at_176 (teq hk132).1 (by decide) (pc' := 192) rfl ?_
        refine own_lload X104 at_192 (pc' := 194) rfl (v := q4) rfl ?_
        refine own_lstore X104 at_194 (pc' := 196) rfl (y := q4) rfl (Ls' := #[.val (.int p1), .val (.long q2), .second, .val (.int p3), .val (.long q4), .second, .val (.int p5), .val (.int p6), .val (.int (own_j0_12 p6)), .val (.int (own_j0_26 p6)), .val (.int (p5 &&& (7 : Int32))), .val (.int (own_v0_42 p5)), .val (.ref b15), .val (.ref b23), .val (.ref b33), .val (.ref b62), .val (.ref b106), .val (.long (own_v0_124 p5)), .second, .val (.int p1), .val (.long q2), .second, .val (.int p3), .val (.long q4), .second, .unset, .unset]) rfl ?_
        refine own_iload X104 at_196 (pc' := 198) rfl (v := p1) rfl ?_
        have K138 : ∀ T139 lc141, own_A l Z "com/example/strom/strom/broker/ReadAllowanceIsLeftPinLaw" code maxLocals n0 p e room_1 s m #[(.int p1), (.long q2), (.int p3), (.long q4), (.int p5), (.int p6)] below meth c T139 h101 lc141 5 23 → own_E p e below (own_G room_1 s n0 (fun v h => v = some (.int (own_F0 p1 q2 p3 q4 p5 p6)))) (T139.setTop (mkF m 213 #[.val (.int p1), .val (.long q2), .second, .val (.int p3), .val (.long q4), .second, .val (.int p5), .val (.int p6), .val (.int (own_j0_12 p6)), .val (.int (own_j0_26 p6)), .val (.int (p5 &&& (7 : Int32))), .val (.int (own_v0_42 p5)), .val (.ref b15), .val (.ref b23), .val (.ref b33), .val (.ref b62), .val (.ref b106), .val (.long (own_v0_124 p5)), .second, .val (.int p1), .val (.long q2), .second, .val (.int p3), .val (.long q4), .second, .unset, .unset] [(.int (own_j0_213 p1 q2))])) := by
          intro T139 lc141 X140
          refine own_istore X140 at_213 (pc' := 215) rfl (y := (own_j0_213 p1 q2)) rfl (Ls' := #[.val (.int p1), .val (.long q2), .second, .val (.int p3), .val (.long q4), .second, .val (.int p5), .val (.int p6), .val (.int (own_j0_12 p6)), .val (.int (own_j0_26 p6)), .val (.int (p5 &&& (7 : Int32))), .val (.int (own_v0_42 p5)), .val (.ref b15), .val (.ref b23), .val (.ref b33), .val (.ref b62), .val (.ref b106), .val (.long (own_v0_124 p5)), .second, .val (.int p1), .val (.long q2), .second, .val (.int p3), .val (.long q4), .second, .val (.int (own_j0_213 p1 q2)), .unset]) rfl ?_
          refine own_iload X140 at_215 (pc' := 217) rfl (v := p3) rfl ?_
          have K149 : ∀ T150 lc152, own_A l Z "com/example/strom/strom/broker/ReadAllowanceIsLeftPinLaw" code maxLocals n0 p e room_1 s m #[(.int p1), (.long q2), (.int p3), (.long q4), (.int p5), (.int p6)] below meth c T150 h101 lc152 5 23 → own_E p e below (own_G room_1 s n0 (fun v h => v = some (.int (own_F0 p1 q2 p3 q4 p5 p6)))) (T150.setTop (mkF m 237 #[.val (.int p1), .val (.long q2), .second, .val (.int p3), .val (.long q4), .second, .val (.int p5), .val (.int p6), .val (.int (own_j0_12 p6)), .val (.int (own_j0_26 p6)), .val (.int (p5 &&& (7 : Int32))), .val (.int (own_v0_42 p5)), .val (.ref b15), .val (.ref b23), .val (.ref b33), .val (.ref b62), .val (.ref b106), .val (.long (own_v0_124 p5)), .second, .val (.int p1), .val (.long q2), .second, .val (.int p3), .val (.long q4), .second, .val (.int (own_j0_213 p1 q2)), .unset] [(.int (own_j0_237 p1 q2 p3 q4))])) := by
            intro T150 lc152 X151
            refine own_istore X151 at_237 (pc' := 239) rfl (y := (own_j0_237 p1 q2 p3 q4)) rfl (Ls' := #[.val (.int p1), .val (.long q2), .second, .val (.int p3), .val (.long q4), .second, .val (.int p5), .val (.int p6), .val (.int (own_j0_12 p6)), .val (.int (own_j0_26 p6)), .val (.int (p5 &&& (7 : Int32))), .val (.int (own_v0_42 p5)), .val (.ref b15), .val (.ref b23), .val (.ref b33), .val (.ref b62), .val (.ref b106), .val (.long (own_v0_124 p5)), .second, .val (.int p1), .val (.long q2), .second, .val (.int p3), .val (.long q4), .second, .val (.int (own_j0_213 p1 q2)), .val (.int (own_j0_237 p1 q2 p3 q4))]) rfl ?_
            refine own_aload X151 at_239 (pc' := 241) rfl (v := (.ref b62)) rfl rfl ?_
            refine own_callV X151 (C := "com/example/strom/strom/broker/ReadAllowance") (a := b62) (argsL := []) (S := []) (own_rm10 l Z a0 hw b62 p1 q2 h101 n0 X151.2.2.2.2.2.2.2.2.1 A121 F125 F126 F127) A121 (hw _ (List.mem_of_getElem? (i := 59) rfl)) (hw _ (List.mem_of_getElem? (i := 60) rfl)) (hw _ (List.mem_of_getElem? (i := 62) rfl)) (hw _ (List.mem_of_getElem? (i := 61) rfl)) (hw _ (List.mem_of_getElem? (i := 23) rfl)) (hw _ (List.mem_of_getElem? (i := 63) rfl)) (by decide) (by decide) 0 (by decide) rfl own_pd4 rfl rfl (Nat.le_of_eq rfl) (by decide) (by decide) at_241 (pc' := 244) rfl rfl fun T153 h154 lc155 r156 X157 Q158 => ?_
            obtain ⟨rfl, e159⟩ := Q158
            replace e159 := e159.symm
            subst e159
            show own_E p e below _ (T153.setTop (mkF m 244 #[.val (.int p1), .val (.long q2), .second, .val (.int p3), .val (.long q4), .second, .val (.int p5), .val (.int p6), .val (.int (own_j0_12 p6)), .val (.int (own_j0_26 p6)), .val (.int (p5 &&& (7 : Int32))), .val (.int (own_v0_42 p5)), .val (.ref b15), .val (.ref b23), .val (.ref b33), .val (.ref b62), .val (.ref b106), .val (.long (own_v0_124 p5)), .second, .val (.int p1), .val (.long q2), .second, .val (.int p3), .val (.long q4), .second, .val (.int (own_j0_213 p1 q2)), .val (.int (own_j0_237 p1 q2 p3 q4))] [(.int (own_F10 p1 q2))]))
            refine own_iload X157 at_244 (pc' := 246) rfl (v := (own_j0_213 p1 q2)) rfl ?_
            by_cases hc160 : (own_F10 p1 q2) = (own_j0_213 p1 q2)
            · refine own_icmpN X157 at_246 (teq hc160).2 (pc' := 249) rfl ?_
              refine own_aload X157 at_249 (pc' := 251) rfl (v := (.ref b106)) rfl rfl ?_
              refine own_callV X157 (C := "com/example/strom/strom/broker/ReadAllowance") (a := b106) (argsL := []) (S := []) (own_rm10w l Z a0 hw b106 b62 p3 q4 p1 q2 h101 n0 X157.2.2.2.2.2.2.2.2.1 A110 F113 F112 F111 A121 F125 F126 F127) A110 (hw _ (List.mem_of_getElem? (i := 59) rfl)) (hw _ (List.mem_of_getElem? (i := 60) rfl)) (hw _ (List.mem_of_getElem? (i := 62) rfl)) (hw _ (List.mem_of_getElem? (i := 61) rfl)) (hw _ (List.mem_of_getElem? (i := 23) rfl)) (hw _ (List.mem_of_getElem? (i := 63) rfl)) (by decide) (by decide) 0 (by decide) rfl own_pd4 rfl rfl (Nat.le_of_eq rfl) (by decide) (by decide) at_251 (pc' := 254) rfl rfl fun T161 h162 lc163 r164 X165 Q166 => ?_
              obtain ⟨rfl, e167⟩ := Q166
              replace e167 := e167.symm
              subst e167
              show own_E p e below _ (T161.setTop (mkF m 254 #[.val (.int p1), .val (.long q2), .second, .val (.int p3), .val (.long q4), .second, .val (.int p5), .val (.int p6), .val (.int (own_j0_12 p6)), .val (.int (own_j0_26 p6)), .val (.int (p5 &&& (7 : Int32))), .val (.int (own_v0_42 p5)), .val (.ref b15), .val (.ref b23), .val (.ref b33), .val (.ref b62), .val (.ref b106), .val (.long (own_v0_124 p5)), .second, .val (.int p1), .val (.long q2), .second, .val (.int p3), .val (.long q4), .second, .val (.int (own_j0_213 p1 q2)), .val (.int (own_j0_237 p1 q2 p3 q4))] [(.int (own_F10w p3 q4 p1 q2))]))
              refine own_iload X165 at_254 (pc' := 256) rfl (v := (own_j0_237 p1 q2 p3 q4)) rfl ?_
              by_cases hc168 : (own_F10w p3 q4 p1 q2) = (own_j0_237 p1 q2 p3 q4)
              · refine own_icmpN X165 at_256 (teq hc168).2 (pc' := 259) rfl ?_
                refine own_iconst X165 at_259 (pc' := 260) rfl (z := (1 : Int32)) rfl ?_
                refine own_goto X165 at_260 (by decide) (pc' := 264) rfl ?_
                refine own_iret X165 (t := .boolean) (w := (1 : Int32)) hret (by simp) at_264 rfl (by decide) (by decide) ?_
                exact congrArg (fun t => some (Value.int t)) (show (1 : Int32) = own_F0 p1 q2 p3 q4 p5 p6 from (by rw [own_F0, if_pos hc128, if_pos hc160, if_pos hc168]))
              · refine own_icmpY X165 at_256 (feq hc168).2 (by decide) (pc' := 263) rfl ?_
                refine own_iconst X165 at_263 (pc' := 264) rfl (z := (0 : Int32)) rfl ?_
                refine own_iret X165 (t := .boolean) (w := (0 : Int32)) hret (by simp) at_264 rfl (by decide) (by decide) ?_
                exact congrArg (fun t => some (Value.int t)) (show (0 : Int32) = own_F0 p1 q2 p3 q4 p5 p6 from (by rw [own_F0, if_pos hc128, if_pos hc160, if_neg hc168]))
            · refine own_icmpY X157 at_246 (feq hc160).2 (by decide) (pc' := 263) rfl ?_
              refine own_iconst X157 at_263 (pc' := 264) rfl (z := (0 : Int32)) rfl ?_
              refine own_iret X157 (t := .boolean) (w := (0 : Int32)) hret (by simp) at_264 rfl (by decide) (by decide) ?_
              exact congrArg (fun t => some (Value.int t)) (show (0 : Int32) = own_F0 p1 q2 p3 q4 p5 p6 from (by rw [own_F0, if_pos hc128, if_neg hc160]))
          by_cases hc142 : (0 : Int32) < p3
          · refine own_ifN X140 at_217 (tlt hc142).2.2.2 (pc' := 220) rfl ?_
            refine own_lload X140 at_220 (pc' := 222) rfl (v := q4) rfl ?_
            refine own_lconst X140 at_222 (pc' := 223) rfl (z := (0 : Int64)) rfl ?_
            by_cases hc143 : (0 : Int64) < q4
            · refine own_ljN X140 at_223 rfl at_224 (own_tltL hc143).2.2.2 (pc' := 227) rfl ?_
              refine own_iload X140 at_227 (pc' := 229) rfl (v := (own_j0_213 p1 q2)) rfl ?_
              by_cases hc144 : (own_j0_213 p1 q2) = (0 : Int32)
              · refine own_ifY X140 at_229 (teq hc144).1 (by decide) (pc' := 236) rfl ?_
                refine own_iconst X140 at_236 (pc' := 237) rfl (z := (0 : Int32)) rfl ?_
                have K149_ := K149 T139 _ X140
                have q169 : (own_j0_237 p1 q2 p3 q4) = (0 : Int32) := by rw [own_j0_237, if_pos hc142, if_pos hc143, if_pos hc144]
                rw [q169] at K149_
                exact K149_
              · refine own_ifN X140 at_229 (feq hc144).1 (pc' := 232) rfl ?_
                refine own_iconst X140 at_232 (pc' := 233) rfl (z := (1 : Int32)) rfl ?_
                refine own_goto X140 at_233 (by decide) (pc' := 237) rfl ?_
                have K149_ := K149 T139 _ X140
                have q170 : (own_j0_237 p1 q2 p3 q4) = (1 : Int32) := by rw [own_j0_237, if_pos hc142, if_pos hc143, if_neg hc144]
                rw [q170] at K149_
                exact K149_
            · refine own_ljY X140 at_223 rfl at_224 (own_fltL hc143).2.2.2 (by decide) (pc' := 236) rfl ?_
              refine own_iconst X140 at_236 (pc' := 237) rfl (z := (0 : Int32)) rfl ?_
              have K149_ := K149 T139 _ X140
              have q171 : (own_j0_237 p1 q2 p3 q4) = (0 : Int32) := by rw [own_j0_237, if_pos hc142, if_neg hc143]
              rw [q171] at K149_
              exact K149_
          · refine own_ifY X140 at_217 (flt hc142).2.2.2 (by decide) (pc' := 236) rfl ?_
            refine own_iconst X140 at_236 (pc' := 237) rfl (z := (0 : Int32)) rfl ?_
            have K149_ := K149 T139 _ X140
            have q172 : (own_j0_237 p1 q2 p3 q4) = (0 : Int32) := by rw [own_j0_237, if_neg hc142]
            rw [q172] at K149_
            exact K149_
        by_cases hc133 : (0 : Int32) < p1
        · refine own_ifN X104 at_198 (tlt hc133).2.2.2 (pc' := 201) rfl ?_
          refine own_lload X104 at_201 (pc' := 203) rfl (v := q2) rfl ?_
          refine own_lconst X104 at_203 (pc' := 204) rfl (z := (0 : Int64)) rfl ?_
          by_cases hc134 : (0 : Int64) < q2
          · refine own_ljN X104 at_204 rfl at_205 (own_tltL hc134).2.2.2 (pc' := 208) rfl ?_
            refine own_iconst X104 at_208 (pc' := 209) rfl (z := (1 : Int32)) rfl ?_
            refine own_goto X104 at_209 (by decide) (pc' := 213) rfl ?_
            have K138_ := K138 T100 _ X104
            have q173 : (own_j0_213 p1 q2) = (1 : Int32) := by rw [own_j0_213, if_pos hc133, if_pos hc134]
            rw [q173] at K138_
            exact K138_
          · refine own_ljY X104 at_204 rfl at_205 (own_fltL hc134).2.2.2 (by decide) (pc' := 212) rfl ?_
            refine own_iconst X104 at_212 (pc' := 213) rfl (z := (0 : Int32)) rfl ?_
            have K138_ := K138 T100 _ X104
            have q174 : (own_j0_213 p1 q2) = (0 : Int32) := by rw [own_j0_213, if_pos hc133, if_neg hc134]
            rw [q174] at K138_
            exact K138_
        · refine own_ifY X104 at_198 (flt hc133).2.2.2 (by decide) (pc' := 212) rfl ?_
          refine own_iconst X104 at_212 (pc' := 213) rfl (z := (0 : Int32)) rfl ?_
          have K138_ := K138 T100 _ X104
          have q175 : (own_j0_213 p1 q2) = (0 : Int32) := by rw [own_j0_213, if_neg hc133]
          rw [q175] at K138_
          exact K138_
      · refine own_ifN X104 at_93 (feq hc128).1 (pc' := 96) rfl ?_
        refine own_iload X104 at_96 (pc' := 98) rfl (v := (own_j0_12 p6)) rfl ?_
        by_cases hc176 : (own_j0_12 p6) = (0 : Int32)
        · refine own_ifY X104 at_98 (teq hc176).1 (by decide) (pc' := 111) rfl ?_
          refine own_aload X104 at_111 (pc' := 113) rfl (v := (.ref b62)) rfl rfl ?_
          refine own_aload X104 at_113 (pc' := 115) rfl (v := (.ref b33)) rfl rfl ?_
          refine own_callV X104 (C := "com/example/strom/strom/broker/ReadAllowance") (a := b62) (argsL := [(.ref b33)]) (S := []) (own_rm7 l Z a0 hw b62 p1 q2 b33 b15 b23 (p5 &&& (7 : Int32)) (List.replicate (p5 &&& (7 : Int32)).toNatClampNeg 0) (own_v0_42 p5) (List.replicate (own_v0_42 p5).toNatClampNeg 0) h101 n0 X104.2.2.2.2.2.2.2.2.1 A121 F125 F126 F127 A120 F123 F124 V118 V119 ne73 ne71 ne72 g68) A121 (hw _ (List.mem_of_getElem? (i := 43) rfl)) (hw _ (List.mem_of_getElem? (i := 44) rfl)) (hw _ (List.mem_of_getElem? (i := 46) rfl)) (hw _ (List.mem_of_getElem? (i := 45) rfl)) (hw _ (List.mem_of_getElem? (i := 23) rfl)) (hw _ (List.mem_of_getElem? (i := 47) rfl)) (by decide) (by decide) 0 (by decide) rfl own_pd3 rfl rfl (Nat.le_of_eq rfl) (by decide) (by decide) at_115 (pc' := 118) rfl rfl fun T177 h178 lc179 r180 X181 Q182 => ?_
          obtain ⟨rfl, K183, F184, F185, F186⟩ := Q182
          have V187 := V118.keep K183 (ninS ne71 nin0)
          have V188 := V119.keep K183 (ninS ne72 nin0)
          have A189 := Exa.keep A120 K183
          have A190 := Exa.keep A121 K183
          have A191 := Exa.keep A110 K183
          have F192 := Fld.keep F122 K183 (ninS ne73 nin0)
          have F193 := Fld.keep F123 K183 (ninS ne73 nin0)
          have F194 := Fld.keep F124 K183 (ninS ne73 nin0)
          have F195 := Fld.keep F111 K183 (ninS (Ne.symm ne117) nin0)
          have F196 := Fld.keep F112 K183 (ninS (Ne.symm ne117) nin0)
          have F197 := Fld.keep F113 K183 (ninS (Ne.symm ne117) nin0)
          show own_E p e below _ (T177.setTop (mkF m 118 #[.val (.int p1), .val (.long q2), .second, .val (.int p3), .val (.long q4), .second, .val (.int p5), .val (.int p6), .val (.int (own_j0_12 p6)), .val (.int (own_j0_26 p6)), .val (.int (p5 &&& (7 : Int32))), .val (.int (own_v0_42 p5)), .val (.ref b15), .val (.ref b23), .val (.ref b33), .val (.ref b62), .val (.ref b106), .unset, .unset, .unset, .unset, .unset, .unset, .unset, .unset, .unset, .unset] []))
          refine own_iload X181 at_118 (pc' := 120) rfl (v := (p5 &&& (7 : Int32))) rfl ?_
          refine own_iload X181 at_120 (pc' := 122) rfl (v := (own_v0_42 p5)) rfl ?_
          refine own_iadd X181 at_122 (pc' := 123) rfl (z := ((p5 &&& (7 : Int32)) + (own_v0_42 p5))) rfl ?_
          refine own_i2l X181 at_123 (pc' := 124) rfl (z := (((p5 &&& (7 : Int32)) + (own_v0_42 p5)).toInt64)) rfl ?_
          refine own_lstore X181 at_124 (pc' := 126) rfl (y := (own_v0_124 p5)) rfl (Ls' := #[.val (.int p1), .val (.long q2), .second, .val (.int p3), .val (.long q4), .second, .val (.int p5), .val (.int p6), .val (.int (own_j0_12 p6)), .val (.int (own_j0_26 p6)), .val (.int (p5 &&& (7 : Int32))), .val (.int (own_v0_42 p5)), .val (.ref b15), .val (.ref b23), .val (.ref b33), .val (.ref b62), .val (.ref b106), .val (.long (own_v0_124 p5)), .second, .unset, .unset, .unset, .unset, .unset, .unset, .unset, .unset]) rfl ?_
          refine own_iload X181 at_126 (pc' := 128) rfl (v := (own_j0_26 p6)) rfl ?_
          have hk198 : ¬ ((own_j0_26 p6) = (0 : Int32)) := hc128
          refine own_ifN X181 at_128 (feq hk198).1 (pc' := 131) rfl ?_
          refine own_iloadN X181 at_131 (pc' := 132) rfl (v := p1) rfl ?_
          refine own_iconst X181 at_132 (pc' := 133) rfl (z := (1 : Int32)) rfl ?_
          refine own_isub X181 at_133 (pc' := 134) rfl (z := (p1 - (1 : Int32))) rfl ?_
          refine own_goto X181 at_134 (by decide) (pc' := 138) rfl ?_
          refine own_istore X181 at_138 (pc' := 140) rfl (y := (p1 - (1 : Int32))) rfl (Ls' := #[.val (.int p1), .val (.long q2), .second, .val (.int p3), .val (.long q4), .second, .val (.int p5), .val (.int p6), .val (.int (own_j0_12 p6)), .val (.int (own_j0_26 p6)), .val (.int (p5 &&& (7 : Int32))), .val (.int (own_v0_42 p5)), .val (.ref b15), .val (.ref b23), .val (.ref b33), .val (.ref b62), .val (.ref b106), .val (.long (own_v0_124 p5)), .second, .val (.int (p1 - (1 : Int32))), .unset, .unset, .unset, .unset, .unset, .unset, .unset]) rfl ?_
          refine own_iload X181 at_140 (pc' := 142) rfl (v := (own_j0_26 p6)) rfl ?_
          have hk199 : ¬ ((own_j0_26 p6) = (0 : Int32)) := hc128
          refine own_ifN X181 at_142 (feq hk199).1 (pc' := 145) rfl ?_
          refine own_lloadN X181 at_145 (pc' := 146) rfl (v := q2) rfl ?_
          refine own_lload X181 at_146 (pc' := 148) rfl (v := (own_v0_124 p5)) rfl ?_
          refine own_lsub X181 at_148 (pc' := 149) rfl (z := (q2 - (own_v0_124 p5))) rfl ?_
          refine own_goto X181 at_149 (by decide) (pc' := 153) rfl ?_
          refine own_lstore X181 at_153 (pc' := 155) rfl (y := (q2 - (own_v0_124 p5))) rfl (Ls' := #[.val (.int p1), .val (.long q2), .second, .val (.int p3), .val (.long q4), .second, .val (.int p5), .val (.int p6), .val (.int (own_j0_12 p6)), .val (.int (own_j0_26 p6)), .val (.int (p5 &&& (7 : Int32))), .val (.int (own_v0_42 p5)), .val (.ref b15), .val (.ref b23), .val (.ref b33), .val (.ref b62), .val (.ref b106), .val (.long (own_v0_124 p5)), .second, .val (.int (p1 - (1 : Int32))), .val (.long (q2 - (own_v0_124 p5))), .second, .unset, .unset, .unset, .unset, .unset]) rfl ?_
          refine own_iload X181 at_155 (pc' := 157) rfl (v := (own_j0_26 p6)) rfl ?_
          have hk200 : ¬ ((own_j0_26 p6) = (0 : Int32)) := hc128
          refine own_ifN X181 at_157 (feq hk200).1 (pc' := 160) rfl ?_
          refine own_iload X181 at_160 (pc' := 162) rfl (v := (own_j0_12 p6)) rfl ?_
          have hk201 : (own_j0_12 p6) = (0 : Int32) := hc176
          refine own_ifY X181 at_162 (teq hk201).1 (by decide) (pc' := 171) rfl ?_
          refine own_iloadN X181 at_171 (pc' := 172) rfl (v := p3) rfl ?_
          refine own_istore X181 at_172 (pc' := 174) rfl (y := p3) rfl (Ls' := #[.val (.int p1), .val (.long q2), .second, .val (.int p3), .val (.long q4), .second, .val (.int p5), .val (.int p6), .val (.int (own_j0_12 p6)), .val (.int (own_j0_26 p6)), .val (.int (p5 &&& (7 : Int32))), .val (.int (own_v0_42 p5)), .val (.ref b15), .val (.ref b23), .val (.ref b33), .val (.ref b62), .val (.ref b106), .val (.long (own_v0_124 p5)), .second, .val (.int (p1 - (1 : Int32))), .val (.long (q2 - (own_v0_124 p5))), .second, .val (.int p3), .unset, .unset, .unset, .unset]) rfl ?_
          refine own_iload X181 at_174 (pc' := 176) rfl (v := (own_j0_26 p6)) rfl ?_
          have hk202 : ¬ ((own_j0_26 p6) = (0 : Int32)) := hc128
          refine own_ifN X181 at_176 (feq hk202).1 (pc' := 179) rfl ?_
          refine own_iload X181 at_179 (pc' := 181) rfl (v := (own_j0_12 p6)) rfl ?_
          have hk203 : (own_j0_12 p6) = (0 : Int32) := hc176
          refine own_ifY X181 at_181 (teq hk203).1 (by decide) (pc' := 192) rfl ?_
          refine own_lload X181 at_192 (pc' := 194) rfl (v := q4) rfl ?_
          refine own_lstore X181 at_194 (pc' := 196) rfl (y := q4) rfl (Ls' := #[.val (.int p1), .val (.long q2), .second, .val (.int p3), .val (.long q4), .second, .val (.int p5), .val (.int p6), .val (.int (own_j0_12 p6)), .val (.int (own_j0_26 p6)), .val (.int (p5 &&& (7 : Int32))), .val (.int (own_v0_42 p5)), .val (.ref b15), .val (.ref b23), .val (.ref b33), .val (.ref b62), .val (.ref b106), .val (.long (own_v0_124 p5)), .second, .val (.int (p1 - (1 : Int32))), .val (.long (q2 - (own_v0_124 p5))), .second, .val (.int p3), .val (.long q4), .second, .unset, .unset]) rfl ?_
          refine own_iload X181 at_196 (pc' := 198) rfl (v := (p1 - (1 : Int32))) rfl ?_
          have K209 : ∀ T210 lc212, own_A l Z "com/example/strom/strom/broker/ReadAllowanceIsLeftPinLaw" code maxLocals n0 p e room_1 s m #[(.int p1), (.long q2), (.int p3), (.long q4), (.int p5), (.int p6)] below meth c T210 h178 lc212 5 23 → own_E p e below (own_G room_1 s n0 (fun v h => v = some (.int (own_F0 p1 q2 p3 q4 p5 p6)))) (T210.setTop (mkF m 213 #[.val (.int p1), .val (.long q2), .second, .val (.int p3), .val (.long q4), .second, .val (.int p5), .val (.int p6), .val (.int (own_j0_12 p6)), .val (.int (own_j0_26 p6)), .val (.int (p5 &&& (7 : Int32))), .val (.int (own_v0_42 p5)), .val (.ref b15), .val (.ref b23), .val (.ref b33), .val (.ref b62), .val (.ref b106), .val (.long (own_v0_124 p5)), .second, .val (.int (p1 - (1 : Int32))), .val (.long (q2 - (own_v0_124 p5))), .second, .val (.int p3), .val (.long q4), .second, .unset, .unset] [(.int (own_j0_213_1 p1 q2 p5))])) := by
            intro T210 lc212 X211
            refine own_istore X211 at_213 (pc' := 215) rfl (y := (own_j0_213_1 p1 q2 p5)) rfl (Ls' := #[.val (.int p1), .val (.long q2), .second, .val (.int p3), .val (.long q4), .second, .val (.int p5), .val (.int p6), .val (.int (own_j0_12 p6)), .val (.int (own_j0_26 p6)), .val (.int (p5 &&& (7 : Int32))), .val (.int (own_v0_42 p5)), .val (.ref b15), .val (.ref b23), .val (.ref b33), .val (.ref b62), .val (.ref b106), .val (.long (own_v0_124 p5)), .second, .val (.int (p1 - (1 : Int32))), .val (.long (q2 - (own_v0_124 p5))), .second, .val (.int p3), .val (.long q4), .second, .val (.int (own_j0_213_1 p1 q2 p5)), .unset]) rfl ?_
            refine own_iload X211 at_215 (pc' := 217) rfl (v := p3) rfl ?_
            have K220 : ∀ T221 lc223, own_A l Z "com/example/strom/strom/broker/ReadAllowanceIsLeftPinLaw" code maxLocals n0 p e room_1 s m #[(.int p1), (.long q2), (.int p3), (.long q4), (.int p5), (.int p6)] below meth c T221 h178 lc223 5 23 → own_E p e below (own_G room_1 s n0 (fun v h => v = some (.int (own_F0 p1 q2 p3 q4 p5 p6)))) (T221.setTop (mkF m 237 #[.val (.int p1), .val (.long q2), .second, .val (.int p3), .val (.long q4), .second, .val (.int p5), .val (.int p6), .val (.int (own_j0_12 p6)), .val (.int (own_j0_26 p6)), .val (.int (p5 &&& (7 : Int32))), .val (.int (own_v0_42 p5)), .val (.ref b15), .val (.ref b23), .val (.ref b33), .val (.ref b62), .val (.ref b106), .val (.long (own_v0_124 p5)), .second, .val (.int (p1 - (1 : Int32))), .val (.long (q2 - (own_v0_124 p5))), .second, .val (.int p3), .val (.long q4), .second, .val (.int (own_j0_213_1 p1 q2 p5)), .unset] [(.int (own_j0_237_1 p1 q2 p3 q4 p5))])) := by
              intro T221 lc223 X222
              refine own_istore X222 at_237 (pc' := 239) rfl (y := (own_j0_237_1 p1 q2 p3 q4 p5)) rfl (Ls' := #[.val (.int p1), .val (.long q2), .second, .val (.int p3), .val (.long q4), .second, .val (.int p5), .val (.int p6), .val (.int (own_j0_12 p6)), .val (.int (own_j0_26 p6)), .val (.int (p5 &&& (7 : Int32))), .val (.int (own_v0_42 p5)), .val (.ref b15), .val (.ref b23), .val (.ref b33), .val (.ref b62), .val (.ref b106), .val (.long (own_v0_124 p5)), .second, .val (.int (p1 - (1 : Int32))), .val (.long (q2 - (own_v0_124 p5))), .second, .val (.int p3), .val (.long q4), .second, .val (.int (own_j0_213_1 p1 q2 p5)), .val (.int (own_j0_237_1 p1 q2 p3 q4 p5))]) rfl ?_
              refine own_aload X222 at_239 (pc' := 241) rfl (v := (.ref b62)) rfl rfl ?_
              refine own_callV X222 (C := "com/example/strom/strom/broker/ReadAllowance") (a := b62) (argsL := []) (S := []) (own_rm10 l Z a0 hw b62 (p1 - (1 : Int32)) (q2 - (((p5 &&& (7 : Int32)) + (own_v0_42 p5)).toInt64)) h178 n0 X222.2.2.2.2.2.2.2.2.1 A190 F186 F185 F184) A190 (hw _ (List.mem_of_getElem? (i := 59) rfl)) (hw _ (List.mem_of_getElem? (i := 60) rfl)) (hw _ (List.mem_of_getElem? (i := 62) rfl)) (hw _ (List.mem_of_getElem? (i := 61) rfl)) (hw _ (List.mem_of_getElem? (i := 23) rfl)) (hw _ (List.mem_of_getElem? (i := 63) rfl)) (by decide) (by decide) 0 (by decide) rfl own_pd4 rfl rfl (Nat.le_of_eq rfl) (by decide) (by decide) at_241 (pc' := 244) rfl rfl fun T224 h225 lc226 r227 X228 Q229 => ?_
              obtain ⟨rfl, e230⟩ := Q229
              replace e230 := e230.symm
              subst e230
              show own_E p e below _ (T224.setTop (mkF m 244 #[.val (.int p1), .val (.long q2), .second, .val (.int p3), .val (.long q4), .second, .val (.int p5), .val (.int p6), .val (.int (own_j0_12 p6)), .val (.int (own_j0_26 p6)), .val (.int (p5 &&& (7 : Int32))), .val (.int (own_v0_42 p5)), .val (.ref b15), .val (.ref b23), .val (.ref b33), .val (.ref b62), .val (.ref b106), .val (.long (own_v0_124 p5)), .second, .val (.int (p1 - (1 : Int32))), .val (.long (q2 - (own_v0_124 p5))), .second, .val (.int p3), .val (.long q4), .second, .val (.int (own_j0_213_1 p1 q2 p5)), .val (.int (own_j0_237_1 p1 q2 p3 q4 p5))] [(.int (own_v0_241 p1 q2 p5))]))
              refine own_iload X228 at_244 (pc' := 246) rfl (v := (own_j0_213_1 p1 q2 p5)) rfl ?_
              by_cases hc231 : (own_v0_241 p1 q2 p5) = (own_j0_213_1 p1 q2 p5)
              · refine own_icmpN X228 at_246 (teq hc231).2 (pc' := 249) rfl ?_
                refine own_aload X228 at_249 (pc' := 251) rfl (v := (.ref b106)) rfl rfl ?_
                refine own_callV X228 (C := "com/example/strom/strom/broker/ReadAllowance") (a := b106) (argsL := []) (S := []) (own_rm10w l Z a0 hw b106 b62 p3 q4 (p1 - (1 : Int32)) (q2 - (((p5 &&& (7 : Int32)) + (own_v0_42 p5)).toInt64)) h178 n0 X228.2.2.2.2.2.2.2.2.1 A191 F197 F196 F195 A190 F186 F185 F184) A191 (hw _ (List.mem_of_getElem? (i := 59) rfl)) (hw _ (List.mem_of_getElem? (i := 60) rfl)) (hw _ (List.mem_of_getElem? (i := 62) rfl)) (hw _ (List.mem_of_getElem? (i := 61) rfl)) (hw _ (List.mem_of_getElem? (i := 23) rfl)) (hw _ (List.mem_of_getElem? (i := 63) rfl)) (by decide) (by decide) 0 (by decide) rfl own_pd4 rfl rfl (Nat.le_of_eq rfl) (by decide) (by decide) at_251 (pc' := 254) rfl rfl fun T232 h233 lc234 r235 X236 Q237 => ?_
                obtain ⟨rfl, e238⟩ := Q237
                replace e238 := e238.symm
                subst e238
                show own_E p e below _ (T232.setTop (mkF m 254 #[.val (.int p1), .val (.long q2), .second, .val (.int p3), .val (.long q4), .second, .val (.int p5), .val (.int p6), .val (.int (own_j0_12 p6)), .val (.int (own_j0_26 p6)), .val (.int (p5 &&& (7 : Int32))), .val (.int (own_v0_42 p5)), .val (.ref b15), .val (.ref b23), .val (.ref b33), .val (.ref b62), .val (.ref b106), .val (.long (own_v0_124 p5)), .second, .val (.int (p1 - (1 : Int32))), .val (.long (q2 - (own_v0_124 p5))), .second, .val (.int p3), .val (.long q4), .second, .val (.int (own_j0_213_1 p1 q2 p5)), .val (.int (own_j0_237_1 p1 q2 p3 q4 p5))] [(.int (own_v0_251 p1 q2 p3 q4 p5))]))
                refine own_iload X236 at_254 (pc' := 256) rfl (v := (own_j0_237_1 p1 q2 p3 q4 p5)) rfl ?_
                by_cases hc239 : (own_v0_251 p1 q2 p3 q4 p5) = (own_j0_237_1 p1 q2 p3 q4 p5)
                · refine own_icmpN X236 at_256 (teq hc239).2 (pc' := 259) rfl ?_
                  refine own_iconst X236 at_259 (pc' := 260) rfl (z := (1 : Int32)) rfl ?_
                  refine own_goto X236 at_260 (by decide) (pc' := 264) rfl ?_
                  refine own_iret X236 (t := .boolean) (w := (1 : Int32)) hret (by simp) at_264 rfl (by decide) (by decide) ?_
                  exact congrArg (fun t => some (Value.int t)) (show (1 : Int32) = own_F0 p1 q2 p3 q4 p5 p6 from (by rw [own_F0, if_neg hc128, if_pos hc176, if_pos hc231, if_pos hc239]))
                · refine own_icmpY X236 at_256 (feq hc239).2 (by decide) (pc' := 263) rfl ?_
                  refine own_iconst X236 at_263 (pc' := 264) rfl (z := (0 : Int32)) rfl ?_
                  refine own_iret X236 (t := .boolean) (w := (0 : Int32)) hret (by simp) at_264 rfl (by decide) (by decide) ?_
                  exact congrArg (fun t => some (Value.int t)) (show (0 : Int32) = own_F0 p1 q2 p3 q4 p5 p6 from (by rw [own_F0, if_neg hc128, if_pos hc176, if_pos hc231, if_neg hc239]))
              · refine own_icmpY X228 at_246 (feq hc231).2 (by decide) (pc' := 263) rfl ?_
                refine own_iconst X228 at_263 (pc' := 264) rfl (z := (0 : Int32)) rfl ?_
                refine own_iret X228 (t := .boolean) (w := (0 : Int32)) hret (by simp) at_264 rfl (by decide) (by decide) ?_
                exact congrArg (fun t => some (Value.int t)) (show (0 : Int32) = own_F0 p1 q2 p3 q4 p5 p6 from (by rw [own_F0, if_neg hc128, if_pos hc176, if_neg hc231]))
            by_cases hc213 : (0 : Int32) < p3
            · refine own_ifN X211 at_217 (tlt hc213).2.2.2 (pc' := 220) rfl ?_
              refine own_lload X211 at_220 (pc' := 222) rfl (v := q4) rfl ?_
              refine own_lconst X211 at_222 (pc' := 223) rfl (z := (0 : Int64)) rfl ?_
              by_cases hc214 : (0 : Int64) < q4
              · refine own_ljN X211 at_223 rfl at_224 (own_tltL hc214).2.2.2 (pc' := 227) rfl ?_
                refine own_iload X211 at_227 (pc' := 229) rfl (v := (own_j0_213_1 p1 q2 p5)) rfl ?_
                by_cases hc215 : (own_j0_213_1 p1 q2 p5) = (0 : Int32)
                · refine own_ifY X211 at_229 (teq hc215).1 (by decide) (pc' := 236) rfl ?_
                  refine own_iconst X211 at_236 (pc' := 237) rfl (z := (0 : Int32)) rfl ?_
                  have K220_ := K220 T210 _ X211
                  have q240 : (own_j0_237_1 p1 q2 p3 q4 p5) = (0 : Int32) := by rw [own_j0_237_1, if_pos hc213, if_pos hc214, if_pos hc215]
                  rw [q240] at K220_
                  exact K220_
                · refine own_ifN X211 at_229 (feq hc215).1 (pc' := 232) rfl ?_
                  refine own_iconst X211 at_232 (pc' := 233) rfl (z := (1 : Int32)) rfl ?_
                  refine own_goto X211 at_233 (by decide) (pc' := 237) rfl ?_
                  have K220_ := K220 T210 _ X211
                  have q241 : (own_j0_237_1 p1 q2 p3 q4 p5) = (1 : Int32) := by rw [own_j0_237_1, if_pos hc213, if_pos hc214, if_neg hc215]
                  rw [q241] at K220_
                  exact K220_
              · refine own_ljY X211 at_223 rfl at_224 (own_fltL hc214).2.2.2 (by decide) (pc' := 236) rfl ?_
                refine own_iconst X211 at_236 (pc' := 237) rfl (z := (0 : Int32)) rfl ?_
                have K220_ := K220 T210 _ X211
                have q242 : (own_j0_237_1 p1 q2 p3 q4 p5) = (0 : Int32) := by rw [own_j0_237_1, if_pos hc213, if_neg hc214]
                rw [q242] at K220_
                exact K220_
            · refine own_ifY X211 at_217 (flt hc213).2.2.2 (by decide) (pc' := 236) rfl ?_
              refine own_iconst X211 at_236 (pc' := 237) rfl (z := (0 : Int32)) rfl ?_
              have K220_ := K220 T210 _ X211
              have q243 : (own_j0_237_1 p1 q2 p3 q4 p5) = (0 : Int32) := by rw [own_j0_237_1, if_neg hc213]
              rw [q243] at K220_
              exact K220_
          by_cases hc204 : (0 : Int32) < (p1 - (1 : Int32))
          · refine own_ifN X181 at_198 (tlt hc204).2.2.2 (pc' := 201) rfl ?_
            refine own_lload X181 at_201 (pc' := 203) rfl (v := (q2 - (own_v0_124 p5))) rfl ?_
            refine own_lconst X181 at_203 (pc' := 204) rfl (z := (0 : Int64)) rfl ?_
            by_cases hc205 : (0 : Int64) < (q2 - (own_v0_124 p5))
            · refine own_ljN X181 at_204 rfl at_205 (own_tltL hc205).2.2.2 (pc' := 208) rfl ?_
              refine own_iconst X181 at_208 (pc' := 209) rfl (z := (1 : Int32)) rfl ?_
              refine own_goto X181 at_209 (by decide) (pc' := 213) rfl ?_
              have K209_ := K209 T177 _ X181
              have q244 : (own_j0_213_1 p1 q2 p5) = (1 : Int32) := by rw [own_j0_213_1, if_pos hc204, if_pos hc205]
              rw [q244] at K209_
              exact K209_
            · refine own_ljY X181 at_204 rfl at_205 (own_fltL hc205).2.2.2 (by decide) (pc' := 212) rfl ?_
              refine own_iconst X181 at_212 (pc' := 213) rfl (z := (0 : Int32)) rfl ?_
              have K209_ := K209 T177 _ X181
              have q245 : (own_j0_213_1 p1 q2 p5) = (0 : Int32) := by rw [own_j0_213_1, if_pos hc204, if_neg hc205]
              rw [q245] at K209_
              exact K209_
          · refine own_ifY X181 at_198 (flt hc204).2.2.2 (by decide) (pc' := 212) rfl ?_
            refine own_iconst X181 at_212 (pc' := 213) rfl (z := (0 : Int32)) rfl ?_
            have K209_ := K209 T177 _ X181
            have q246 : (own_j0_213_1 p1 q2 p5) = (0 : Int32) := by rw [own_j0_213_1, if_neg hc204]
            rw [q246] at K209_
            exact K209_
        · refine own_ifN X104 at_98 (feq hc176).1 (pc' := 101) rfl ?_
          refine own_aload X104 at_101 (pc' := 103) rfl (v := (.ref b106)) rfl rfl ?_
          refine own_aload X104 at_103 (pc' := 105) rfl (v := (.ref b33)) rfl rfl ?_
          refine own_callV X104 (C := "com/example/strom/strom/broker/ReadAllowance") (a := b106) (argsL := [(.ref b33)]) (S := []) (own_rm7w l Z a0 hw b106 b62 p3 q4 b33 b15 b23 p1 q2 (p5 &&& (7 : Int32)) (List.replicate (p5 &&& (7 : Int32)).toNatClampNeg 0) (own_v0_42 p5) (List.replicate (own_v0_42 p5).toNatClampNeg 0) h101 n0 X104.2.2.2.2.2.2.2.2.1 A110 F113 F112 F111 A120 F123 F124 A121 F125 F126 F127 V118 V119 ne116 ne114 ne115 ne117 ne73 ne71 ne72 g107 g68) A110 (hw _ (List.mem_of_getElem? (i := 43) rfl)) (hw _ (List.mem_of_getElem? (i := 44) rfl)) (hw _ (List.mem_of_getElem? (i := 46) rfl)) (hw _ (List.mem_of_getElem? (i := 45) rfl)) (hw _ (List.mem_of_getElem? (i := 23) rfl)) (hw _ (List.mem_of_getElem? (i := 47) rfl)) (by decide) (by decide) 0 (by decide) rfl own_pd3 rfl rfl (Nat.le_of_eq rfl) (by decide) (by decide) at_105 (pc' := 108) rfl rfl fun T247 h248 lc249 r250 X251 Q252 => ?_
          obtain ⟨rfl, K253, F254, F255, F256, F257, F258, F259⟩ := Q252
          have V260 := V118.keep K253 (ninS ne114 (ninS ne71 nin0))
          have V261 := V119.keep K253 (ninS ne115 (ninS ne72 nin0))
          have A262 := Exa.keep A120 K253
          have A263 := Exa.keep A121 K253
          have A264 := Exa.keep A110 K253
          have F265 := Fld.keep F122 K253 (ninS ne116 (ninS ne73 nin0))
          have F266 := Fld.keep F123 K253 (ninS ne116 (ninS ne73 nin0))
          have F267 := Fld.keep F124 K253 (ninS ne116 (ninS ne73 nin0))
          show own_E p e below _ (T247.setTop (mkF m 108 #[.val (.int p1), .val (.long q2), .second, .val (.int p3), .val (.long q4), .second, .val (.int p5), .val (.int p6), .val (.int (own_j0_12 p6)), .val (.int (own_j0_26 p6)), .val (.int (p5 &&& (7 : Int32))), .val (.int (own_v0_42 p5)), .val (.ref b15), .val (.ref b23), .val (.ref b33), .val (.ref b62), .val (.ref b106), .unset, .unset, .unset, .unset, .unset, .unset, .unset, .unset, .unset, .unset] []))
          refine own_goto X251 at_108 (by decide) (pc' := 118) rfl ?_
          refine own_iload X251 at_118 (pc' := 120) rfl (v := (p5 &&& (7 : Int32))) rfl ?_
          refine own_iload X251 at_120 (pc' := 122) rfl (v := (own_v0_42 p5)) rfl ?_
          refine own_iadd X251 at_122 (pc' := 123) rfl (z := ((p5 &&& (7 : Int32)) + (own_v0_42 p5))) rfl ?_
          refine own_i2l X251 at_123 (pc' := 124) rfl (z := (((p5 &&& (7 : Int32)) + (own_v0_42 p5)).toInt64)) rfl ?_
          refine own_lstore X251 at_124 (pc' := 126) rfl (y := (own_v0_124 p5)) rfl (Ls' := #[.val (.int p1), .val (.long q2), .second, .val (.int p3), .val (.long q4), .second, .val (.int p5), .val (.int p6), .val (.int (own_j0_12 p6)), .val (.int (own_j0_26 p6)), .val (.int (p5 &&& (7 : Int32))), .val (.int (own_v0_42 p5)), .val (.ref b15), .val (.ref b23), .val (.ref b33), .val (.ref b62), .val (.ref b106), .val (.long (own_v0_124 p5)), .second, .unset, .unset, .unset, .unset, .unset, .unset, .unset, .unset]) rfl ?_
          refine own_iload X251 at_126 (pc' := 128) rfl (v := (own_j0_26 p6)) rfl ?_
          have hk268 : ¬ ((own_j0_26 p6) = (0 : Int32)) := hc128
          refine own_ifN X251 at_128 (feq hk268).1 (pc' := 131) rfl ?_
          refine own_iloadN X251 at_131 (pc' := 132) rfl (v := p1) rfl ?_
          refine own_iconst X251 at_132 (pc' := 133) rfl (z := (1 : Int32)) rfl ?_
          refine own_isub X251 at_133 (pc' := 134) rfl (z := (p1 - (1 : Int32))) rfl ?_
          refine own_goto X251 at_134 (by decide) (pc' := 138) rfl ?_
          refine own_istore X251 at_138 (pc' := 140) rfl (y := (p1 - (1 : Int32))) rfl (Ls' := #[.val (.int p1), .val (.long q2), .second, .val (.int p3), .val (.long q4), .second, .val (.int p5), .val (.int p6), .val (.int (own_j0_12 p6)), .val (.int (own_j0_26 p6)), .val (.int (p5 &&& (7 : Int32))), .val (.int (own_v0_42 p5)), .val (.ref b15), .val (.ref b23), .val (.ref b33), .val (.ref b62), .val (.ref b106), .val (.long (own_v0_124 p5)), .second, .val (.int (p1 - (1 : Int32))), .unset, .unset, .unset, .unset, .unset, .unset, .unset]) rfl ?_
          refine own_iload X251 at_140 (pc' := 142) rfl (v := (own_j0_26 p6)) rfl ?_
          have hk269 : ¬ ((own_j0_26 p6) = (0 : Int32)) := hc128
          refine own_ifN X251 at_142 (feq hk269).1 (pc' := 145) rfl ?_
          refine own_lloadN X251 at_145 (pc' := 146) rfl (v := q2) rfl ?_
          refine own_lload X251 at_146 (pc' := 148) rfl (v := (own_v0_124 p5)) rfl ?_
          refine own_lsub X251 at_148 (pc' := 149) rfl (z := (q2 - (own_v0_124 p5))) rfl ?_
          refine own_goto X251 at_149 (by decide) (pc' := 153) rfl ?_
          refine own_lstore X251 at_153 (pc' := 155) rfl (y := (q2 - (own_v0_124 p5))) rfl (Ls' := #[.val (.int p1), .val (.long q2), .second, .val (.int p3), .val (.long q4), .second, .val (.int p5), .val (.int p6), .val (.int (own_j0_12 p6)), .val (.int (own_j0_26 p6)), .val (.int (p5 &&& (7 : Int32))), .val (.int (own_v0_42 p5)), .val (.ref b15), .val (.ref b23), .val (.ref b33), .val (.ref b62), .val (.ref b106), .val (.long (own_v0_124 p5)), .second, .val (.int (p1 - (1 : Int32))), .val (.long (q2 - (own_v0_124 p5))), .second, .unset, .unset, .unset, .unset, .unset]) rfl ?_
          refine own_iload X251 at_155 (pc' := 157) rfl (v := (own_j0_26 p6)) rfl ?_
          have hk270 : ¬ ((own_j0_26 p6) = (0 : Int32)) := hc128
          refine own_ifN X251 at_157 (feq hk270).1 (pc' := 160) rfl ?_
          refine own_iload X251 at_160 (pc' := 162) rfl (v := (own_j0_12 p6)) rfl ?_
          have hk271 : ¬ ((own_j0_12 p6) = (0 : Int32)) := hc176
          refine own_ifN X251 at_162 (feq hk271).1 (pc' := 165) rfl ?_
          refine own_iloadN X251 at_165 (pc' := 166) rfl (v := p3) rfl ?_
          refine own_iconst X251 at_166 (pc' := 167) rfl (z := (1 : Int32)) rfl ?_
          refine own_isub X251 at_167 (pc' := 168) rfl (z := (p3 - (1 : Int32))) rfl ?_
          refine own_goto X251 at_168 (by decide) (pc' := 172) rfl ?_
          refine own_istore X251 at_172 (pc' := 174) rfl (y := (p3 - (1 : Int32))) rfl (Ls' := #[.val (.int p1), .val (.long q2), .second, .val (.int p3), .val (.long q4), .second, .val (.int p5), .val (.int p6), .val (.int (own_j0_12 p6)), .val (.int (own_j0_26 p6)), .val (.int (p5 &&& (7 : Int32))), .val (.int (own_v0_42 p5)), .val (.ref b15), .val (.ref b23), .val (.ref b33), .val (.ref b62), .val (.ref b106), .val (.long (own_v0_124 p5)), .second, .val (.int (p1 - (1 : Int32))), .val (.long (q2 - (own_v0_124 p5))), .second, .val (.int (p3 - (1 : Int32))), .unset, .unset, .unset, .unset]) rfl ?_
          refine own_iload X251 at_174 (pc' := 176) rfl (v := (own_j0_26 p6)) rfl ?_
          have hk272 : ¬ ((own_j0_26 p6) = (0 : Int32)) := hc128
          refine own_ifN X251 at_176 (feq hk272).1 (pc' := 179) rfl ?_
          refine own_iload X251 at_179 (pc' := 181) rfl (v := (own_j0_12 p6)) rfl ?_
          have hk273 : ¬ ((own_j0_12 p6) = (0 : Int32)) := hc176
          refine own_ifN X251 at_181 (feq hk273).1 (pc' := 184) rfl ?_
          refine own_lload X251 at_184 (pc' := 186) rfl (v := q4) rfl ?_
          refine own_lload X251 at_186 (pc' := 188) rfl (v := (own_v0_124 p5)) rfl ?_
          refine own_lsub X251 at_188 (pc' := 189) rfl (z := (q4 - (own_v0_124 p5))) rfl ?_
          refine own_goto X251 at_189 (by decide) (pc' := 194) rfl ?_
          refine own_lstore X251 at_194 (pc' := 196) rfl (y := (q4 - (own_v0_124 p5))) rfl (Ls' := #[.val (.int p1), .val (.long q2), .second, .val (.int p3), .val (.long q4), .second, .val (.int p5), .val (.int p6), .val (.int (own_j0_12 p6)), .val (.int (own_j0_26 p6)), .val (.int (p5 &&& (7 : Int32))), .val (.int (own_v0_42 p5)), .val (.ref b15), .val (.ref b23), .val (.ref b33), .val (.ref b62), .val (.ref b106), .val (.long (own_v0_124 p5)), .second, .val (.int (p1 - (1 : Int32))), .val (.long (q2 - (own_v0_124 p5))), .second, .val (.int (p3 - (1 : Int32))), .val (.long (q4 - (own_v0_124 p5))), .second, .unset, .unset]) rfl ?_
          refine own_iload X251 at_196 (pc' := 198) rfl (v := (p1 - (1 : Int32))) rfl ?_
          have K279 : ∀ T280 lc282, own_A l Z "com/example/strom/strom/broker/ReadAllowanceIsLeftPinLaw" code maxLocals n0 p e room_1 s m #[(.int p1), (.long q2), (.int p3), (.long q4), (.int p5), (.int p6)] below meth c T280 h248 lc282 5 23 → own_E p e below (own_G room_1 s n0 (fun v h => v = some (.int (own_F0 p1 q2 p3 q4 p5 p6)))) (T280.setTop (mkF m 213 #[.val (.int p1), .val (.long q2), .second, .val (.int p3), .val (.long q4), .second, .val (.int p5), .val (.int p6), .val (.int (own_j0_12 p6)), .val (.int (own_j0_26 p6)), .val (.int (p5 &&& (7 : Int32))), .val (.int (own_v0_42 p5)), .val (.ref b15), .val (.ref b23), .val (.ref b33), .val (.ref b62), .val (.ref b106), .val (.long (own_v0_124 p5)), .second, .val (.int (p1 - (1 : Int32))), .val (.long (q2 - (own_v0_124 p5))), .second, .val (.int (p3 - (1 : Int32))), .val (.long (q4 - (own_v0_124 p5))), .second, .unset, .unset] [(.int (own_j0_213_1 p1 q2 p5))])) := by
            intro T280 lc282 X281
            refine own_istore X281 at_213 (pc' := 215) rfl (y := (own_j0_213_1 p1 q2 p5)) rfl (Ls' := #[.val (.int p1), .val (.long q2), .second, .val (.int p3), .val (.long q4), .second, .val (.int p5), .val (.int p6), .val (.int (own_j0_12 p6)), .val (.int (own_j0_26 p6)), .val (.int (p5 &&& (7 : Int32))), .val (.int (own_v0_42 p5)), .val (.ref b15), .val (.ref b23), .val (.ref b33), .val (.ref b62), .val (.ref b106), .val (.long (own_v0_124 p5)), .second, .val (.int (p1 - (1 : Int32))), .val (.long (q2 - (own_v0_124 p5))), .second, .val (.int (p3 - (1 : Int32))), .val (.long (q4 - (own_v0_124 p5))), .second, .val (.int (own_j0_213_1 p1 q2 p5)), .unset]) rfl ?_
            refine own_iload X281 at_215 (pc' := 217) rfl (v := (p3 - (1 : Int32))) rfl ?_
            have K290 : ∀ T291 lc293, own_A l Z "com/example/strom/strom/broker/ReadAllowanceIsLeftPinLaw" code maxLocals n0 p e room_1 s m #[(.int p1), (.long q2), (.int p3), (.long q4), (.int p5), (.int p6)] below meth c T291 h248 lc293 5 23 → own_E p e below (own_G room_1 s n0 (fun v h => v = some (.int (own_F0 p1 q2 p3 q4 p5 p6)))) (T291.setTop (mkF m 237 #[.val (.int p1), .val (.long q2), .second, .val (.int p3), .val (.long q4), .second, .val (.int p5), .val (.int p6), .val (.int (own_j0_12 p6)), .val (.int (own_j0_26 p6)), .val (.int (p5 &&& (7 : Int32))), .val (.int (own_v0_42 p5)), .val (.ref b15), .val (.ref b23), .val (.ref b33), .val (.ref b62), .val (.ref b106), .val (.long (own_v0_124 p5)), .second, .val (.int (p1 - (1 : Int32))), .val (.long (q2 - (own_v0_124 p5))), .second, .val (.int (p3 - (1 : Int32))), .val (.long (q4 - (own_v0_124 p5))), .second, .val (.int (own_j0_213_1 p1 q2 p5)), .unset] [(.int (own_j0_237_2 p1 q2 p3 q4 p5))])) := by
              intro T291 lc293 X292
              refine own_istore X292 at_237 (pc' := 239) rfl (y := (own_j0_237_2 p1 q2 p3 q4 p5)) rfl (Ls' := #[.val (.int p1), .val (.long q2), .second, .val (.int p3), .val (.long q4), .second, .val (.int p5), .val (.int p6), .val (.int (own_j0_12 p6)), .val (.int (own_j0_26 p6)), .val (.int (p5 &&& (7 : Int32))), .val (.int (own_v0_42 p5)), .val (.ref b15), .val (.ref b23), .val (.ref b33), .val (.ref b62), .val (.ref b106), .val (.long (own_v0_124 p5)), .second, .val (.int (p1 - (1 : Int32))), .val (.long (q2 - (own_v0_124 p5))), .second, .val (.int (p3 - (1 : Int32))), .val (.long (q4 - (own_v0_124 p5))), .second, .val (.int (own_j0_213_1 p1 q2 p5)), .val (.int (own_j0_237_2 p1 q2 p3 q4 p5))]) rfl ?_
              refine own_aload X292 at_239 (pc' := 241) rfl (v := (.ref b62)) rfl rfl ?_
              refine own_callV X292 (C := "com/example/strom/strom/broker/ReadAllowance") (a := b62) (argsL := []) (S := []) (own_rm10 l Z a0 hw b62 (p1 - (1 : Int32)) (q2 - (((p5 &&& (7 : Int32)) + (own_v0_42 p5)).toInt64)) h248 n0 X292.2.2.2.2.2.2.2.2.1 A263 F259 F258 F257) A263 (hw _ (List.mem_of_getElem? (i := 59) rfl)) (hw _ (List.mem_of_getElem? (i := 60) rfl)) (hw _ (List.mem_of_getElem? (i := 62) rfl)) (hw _ (List.mem_of_getElem? (i := 61) rfl)) (hw _ (List.mem_of_getElem? (i := 23) rfl)) (hw _ (List.mem_of_getElem? (i := 63) rfl)) (by decide) (by decide) 0 (by decide) rfl own_pd4 rfl rfl (Nat.le_of_eq rfl) (by decide) (by decide) at_241 (pc' := 244) rfl rfl fun T294 h295 lc296 r297 X298 Q299 => ?_
              obtain ⟨rfl, e300⟩ := Q299
              replace e300 := e300.symm
              subst e300
              show own_E p e below _ (T294.setTop (mkF m 244 #[.val (.int p1), .val (.long q2), .second, .val (.int p3), .val (.long q4), .second, .val (.int p5), .val (.int p6), .val (.int (own_j0_12 p6)), .val (.int (own_j0_26 p6)), .val (.int (p5 &&& (7 : Int32))), .val (.int (own_v0_42 p5)), .val (.ref b15), .val (.ref b23), .val (.ref b33), .val (.ref b62), .val (.ref b106), .val (.long (own_v0_124 p5)), .second, .val (.int (p1 - (1 : Int32))), .val (.long (q2 - (own_v0_124 p5))), .second, .val (.int (p3 - (1 : Int32))), .val (.long (q4 - (own_v0_124 p5))), .second, .val (.int (own_j0_213_1 p1 q2 p5)), .val (.int (own_j0_237_2 p1 q2 p3 q4 p5))] [(.int (own_v0_241 p1 q2 p5))]))
              refine own_iload X298 at_244 (pc' := 246) rfl (v := (own_j0_213_1 p1 q2 p5)) rfl ?_
              by_cases hc301 : (own_v0_241 p1 q2 p5) = (own_j0_213_1 p1 q2 p5)
              · refine own_icmpN X298 at_246 (teq hc301).2 (pc' := 249) rfl ?_
                refine own_aload X298 at_249 (pc' := 251) rfl (v := (.ref b106)) rfl rfl ?_
                refine own_callV X298 (C := "com/example/strom/strom/broker/ReadAllowance") (a := b106) (argsL := []) (S := []) (own_rm10w l Z a0 hw b106 b62 (p3 - (1 : Int32)) (q4 - (((p5 &&& (7 : Int32)) + (own_v0_42 p5)).toInt64)) (p1 - (1 : Int32)) (q2 - (((p5 &&& (7 : Int32)) + (own_v0_42 p5)).toInt64)) h248 n0 X298.2.2.2.2.2.2.2.2.1 A264 F256 F255 F254 A263 F259 F258 F257) A264 (hw _ (List.mem_of_getElem? (i := 59) rfl)) (hw _ (List.mem_of_getElem? (i := 60) rfl)) (hw _ (List.mem_of_getElem? (i := 62) rfl)) (hw _ (List.mem_of_getElem? (i := 61) rfl)) (hw _ (List.mem_of_getElem? (i := 23) rfl)) (hw _ (List.mem_of_getElem? (i := 63) rfl)) (by decide) (by decide) 0 (by decide) rfl own_pd4 rfl rfl (Nat.le_of_eq rfl) (by decide) (by decide) at_251 (pc' := 254) rfl rfl fun T302 h303 lc304 r305 X306 Q307 => ?_
                obtain ⟨rfl, e308⟩ := Q307
                replace e308 := e308.symm
                subst e308
                show own_E p e below _ (T302.setTop (mkF m 254 #[.val (.int p1), .val (.long q2), .second, .val (.int p3), .val (.long q4), .second, .val (.int p5), .val (.int p6), .val (.int (own_j0_12 p6)), .val (.int (own_j0_26 p6)), .val (.int (p5 &&& (7 : Int32))), .val (.int (own_v0_42 p5)), .val (.ref b15), .val (.ref b23), .val (.ref b33), .val (.ref b62), .val (.ref b106), .val (.long (own_v0_124 p5)), .second, .val (.int (p1 - (1 : Int32))), .val (.long (q2 - (own_v0_124 p5))), .second, .val (.int (p3 - (1 : Int32))), .val (.long (q4 - (own_v0_124 p5))), .second, .val (.int (own_j0_213_1 p1 q2 p5)), .val (.int (own_j0_237_2 p1 q2 p3 q4 p5))] [(.int (own_v0_251_1 p1 q2 p3 q4 p5))]))
                refine own_iload X306 at_254 (pc' := 256) rfl (v := (own_j0_237_2 p1 q2 p3 q4 p5)) rfl ?_
                by_cases hc309 : (own_v0_251_1 p1 q2 p3 q4 p5) = (own_j0_237_2 p1 q2 p3 q4 p5)
                · refine own_icmpN X306 at_256 (teq hc309).2 (pc' := 259) rfl ?_
                  refine own_iconst X306 at_259 (pc' := 260) rfl (z := (1 : Int32)) rfl ?_
                  refine own_goto X306 at_260 (by decide) (pc' := 264) rfl ?_
                  refine own_iret X306 (t := .boolean) (w := (1 : Int32)) hret (by simp) at_264 rfl (by decide) (by decide) ?_
                  exact congrArg (fun t => some (Value.int t)) (show (1 : Int32) = own_F0 p1 q2 p3 q4 p5 p6 from (by rw [own_F0, if_neg hc128, if_neg hc176, if_pos hc301, if_pos hc309]))
                · refine own_icmpY X306 at_256 (feq hc309).2 (by decide) (pc' := 263) rfl ?_
                  refine own_iconst X306 at_263 (pc' := 264) rfl (z := (0 : Int32)) rfl ?_
                  refine own_iret X306 (t := .boolean) (w := (0 : Int32)) hret (by simp) at_264 rfl (by decide) (by decide) ?_
                  exact congrArg (fun t => some (Value.int t)) (show (0 : Int32) = own_F0 p1 q2 p3 q4 p5 p6 from (by rw [own_F0, if_neg hc128, if_neg hc176, if_pos hc301, if_neg hc309]))
              · refine own_icmpY X298 at_246 (feq hc301).2 (by decide) (pc' := 263) rfl ?_
                refine own_iconst X298 at_263 (pc' := 264) rfl (z := (0 : Int32)) rfl ?_
                refine own_iret X298 (t := .boolean) (w := (0 : Int32)) hret (by simp) at_264 rfl (by decide) (by decide) ?_
                exact congrArg (fun t => some (Value.int t)) (show (0 : Int32) = own_F0 p1 q2 p3 q4 p5 p6 from (by rw [own_F0, if_neg hc128, if_neg hc176, if_neg hc301]))
            by_cases hc283 : (0 : Int32) < (p3 - (1 : Int32))
            · refine own_ifN X281 at_217 (tlt hc283).2.2.2 (pc' := 220) rfl ?_
              refine own_lload X281 at_220 (pc' := 222) rfl (v := (q4 - (own_v0_124 p5))) rfl ?_
              refine own_lconst X281 at_222 (pc' := 223) rfl (z := (0 : Int64)) rfl ?_
              by_cases hc284 : (0 : Int64) < (q4 - (own_v0_124 p5))
              · refine own_ljN X281 at_223 rfl at_224 (own_tltL hc284).2.2.2 (pc' := 227) rfl ?_
                refine own_iload X281 at_227 (pc' := 229) rfl (v := (own_j0_213_1 p1 q2 p5)) rfl ?_
                by_cases hc285 : (own_j0_213_1 p1 q2 p5) = (0 : Int32)
                · refine own_ifY X281 at_229 (teq hc285).1 (by decide) (pc' := 236) rfl ?_
                  refine own_iconst X281 at_236 (pc' := 237) rfl (z := (0 : Int32)) rfl ?_
                  have K290_ := K290 T280 _ X281
                  have q310 : (own_j0_237_2 p1 q2 p3 q4 p5) = (0 : Int32) := by rw [own_j0_237_2, if_pos hc283, if_pos hc284, if_pos hc285]
                  rw [q310] at K290_
                  exact K290_
                · refine own_ifN X281 at_229 (feq hc285).1 (pc' := 232) rfl ?_
                  refine own_iconst X281 at_232 (pc' := 233) rfl (z := (1 : Int32)) rfl ?_
                  refine own_goto X281 at_233 (by decide) (pc' := 237) rfl ?_
                  have K290_ := K290 T280 _ X281
                  have q311 : (own_j0_237_2 p1 q2 p3 q4 p5) = (1 : Int32) := by rw [own_j0_237_2, if_pos hc283, if_pos hc284, if_neg hc285]
                  rw [q311] at K290_
                  exact K290_
              · refine own_ljY X281 at_223 rfl at_224 (own_fltL hc284).2.2.2 (by decide) (pc' := 236) rfl ?_
                refine own_iconst X281 at_236 (pc' := 237) rfl (z := (0 : Int32)) rfl ?_
                have K290_ := K290 T280 _ X281
                have q312 : (own_j0_237_2 p1 q2 p3 q4 p5) = (0 : Int32) := by rw [own_j0_237_2, if_pos hc283, if_neg hc284]
                rw [q312] at K290_
                exact K290_
            · refine own_ifY X281 at_217 (flt hc283).2.2.2 (by decide) (pc' := 236) rfl ?_
              refine own_iconst X281 at_236 (pc' := 237) rfl (z := (0 : Int32)) rfl ?_
              have K290_ := K290 T280 _ X281
              have q313 : (own_j0_237_2 p1 q2 p3 q4 p5) = (0 : Int32) := by rw [own_j0_237_2, if_neg hc283]
              rw [q313] at K290_
              exact K290_
          by_cases hc274 : (0 : Int32) < (p1 - (1 : Int32))
          · refine own_ifN X251 at_198 (tlt hc274).2.2.2 (pc' := 201) rfl ?_
            refine own_lload X251 at_201 (pc' := 203) rfl (v := (q2 - (own_v0_124 p5))) rfl ?_
            refine own_lconst X251 at_203 (pc' := 204) rfl (z := (0 : Int64)) rfl ?_
            by_cases hc275 : (0 : Int64) < (q2 - (own_v0_124 p5))
            · refine own_ljN X251 at_204 rfl at_205 (own_tltL hc275).2.2.2 (pc' := 208) rfl ?_
              refine own_iconst X251 at_208 (pc' := 209) rfl (z := (1 : Int32)) rfl ?_
              refine own_goto X251 at_209 (by decide) (pc' := 213) rfl ?_
              have K279_ := K279 T247 _ X251
              have q314 : (own_j0_213_1 p1 q2 p5) = (1 : Int32) := by rw [own_j0_213_1, if_pos hc274, if_pos hc275]
              rw [q314] at K279_
              exact K279_
            · refine own_ljY X251 at_204 rfl at_205 (own_fltL hc275).2.2.2 (by decide) (pc' := 212) rfl ?_
              refine own_iconst X251 at_212 (pc' := 213) rfl (z := (0 : Int32)) rfl ?_
              have K279_ := K279 T247 _ X251
              have q315 : (own_j0_213_1 p1 q2 p5) = (0 : Int32) := by rw [own_j0_213_1, if_pos hc274, if_neg hc275]
              rw [q315] at K279_
              exact K279_
          · refine own_ifY X251 at_198 (flt hc274).2.2.2 (by decide) (pc' := 212) rfl ?_
            refine own_iconst X251 at_212 (pc' := 213) rfl (z := (0 : Int32)) rfl ?_
            have K279_ := K279 T247 _ X251
            have q316 : (own_j0_213_1 p1 q2 p5) = (0 : Int32) := by rw [own_j0_213_1, if_neg hc274]
            rw [q316] at K279_
            exact K279_
    by_cases hc8 : (p6 &&& (2 : Int32)) = (0 : Int32)
    · refine own_ifY X6 at_18 (teq hc8).1 (by decide) (pc' := 25) rfl ?_
      refine own_iconst X6 at_25 (pc' := 26) rfl (z := (0 : Int32)) rfl ?_
      have K11_ := K11 T5 _ X6
      have q317 : (own_j0_26 p6) = (0 : Int32) := by rw [own_j0_26, if_pos hc8]
      rw [q317] at K11_
      exact K11_
    · refine own_ifN X6 at_18 (feq hc8).1 (pc' := 21) rfl ?_
      refine own_iconst X6 at_21 (pc' := 22) rfl (z := (1 : Int32)) rfl ?_
      refine own_goto X6 at_22 (by decide) (pc' := 26) rfl ?_
      have K11_ := K11 T5 _ X6
      have q318 : (own_j0_26 p6) = (1 : Int32) := by rw [own_j0_26, if_neg hc8]
      rw [q318] at K11_
      exact K11_
  by_cases hc1 : (p6 &&& (1 : Int32)) = (0 : Int32)
  · refine own_ifY X0 at_4 (teq hc1).1 (by decide) (pc' := 11) rfl ?_
    refine own_iconst X0 at_11 (pc' := 12) rfl (z := (0 : Int32)) rfl ?_
    have K4_ := K4 T0 _ X0
    have q319 : (own_j0_12 p6) = (0 : Int32) := by rw [own_j0_12, if_pos hc1]
    rw [q319] at K4_
    exact K4_
  · refine own_ifN X0 at_4 (feq hc1).1 (pc' := 7) rfl ?_
    refine own_iconst X0 at_7 (pc' := 8) rfl (z := (1 : Int32)) rfl ?_
    refine own_goto X0 at_8 (by decide) (pc' := 12) rfl ?_
    have K4_ := K4 T0 _ X0
    have q320 : (own_j0_12 p6) = (1 : Int32) := by rw [own_j0_12, if_neg hc1]
    rw [q320] at K4_
    exact K4_
theorem own_plain (p1 : Int32) (q2 : Int64) (p3 : Int32) (q4 : Int64) (p5 p6 : Int32) : own_F0 p1 q2 p3 q4 p5 p6 = 1 := by
  rw [own_F0]
  by_cases a : own_j0_26 p6 = 0
  · exact own_yes a (own_yes rfl (own_yes rfl rfl))
  · refine own_no a ?_
    by_cases b : own_j0_12 p6 = 0
    · exact own_yes b (own_yes rfl (own_yes rfl rfl))
    · exact own_no b (own_yes rfl (own_yes rfl rfl))
set_option maxRecDepth 65536 in
set_option maxHeartbeats 40000000 in
theorem own_comes {Post : Tables → Env → Array Value → State → Outcome → State → Prop} (hpost : ∀ tb e args s v u, (limb_1_1.after args s (.returned v) u = true ∧ limb_1_2.after args s (.returned v) u = true) → FrameEnd s (.returned v) u (Jvm.fieldLocs frame_1_writes args s ++ Jvm.arrayLocs frame_1_arrays args s ++ Jvm.staticLocs frame_1_statics s) 24 128 → Post tb e args s (.returned v) u) :
    ArmFor flags0 classFile x code maxLocals ret World_1 tables_1 room_1 Calls_1 rest_1 Pre_1 Post := by
  intro l hfl _ _ p e ha hc hk s m args below hf hA hF happ hP
  obtain ⟨hcalls, hrest, hpre⟩ := hP
  obtain ⟨-, -, -, hnamed, -, -, -, hat⟩ := (Spec.applies_iff hf).mp happ
  obtain ⟨hg, hn⟩ := and_e (Cond.before_iff.mp (show (Jvm.Cond.and given_1 narrow_1).before args s = true from hpre))
  obtain ⟨g1, g2⟩ := and_e hg
  obtain ⟨g3, g4⟩ := and_e g2
  obtain ⟨g5, g6⟩ := and_e g4
  obtain ⟨g7, g8⟩ := and_e g6
  obtain ⟨g9, g10⟩ := and_e g8
  obtain ⟨g11, g12⟩ := and_e g10
  obtain ⟨w0, w1, w2, w3, w4, w5, rfl⟩ : ∃ w0 w1 w2 w3 w4 w5 : Value, args = #[w0, w1, w2, w3, w4, w5] := by
    have hs : args.size = 6 := by simpa [Cond.value, given_1] using g1
    obtain ⟨L⟩ := args
    match L, hs with
    | [w0, w1, w2, w3, w4, w5], _ => exact ⟨w0, w1, w2, w3, w4, w5, rfl⟩
  have hw := fun d (hd : d ∈ tables_1) => atoms_spec (ws := Jvm.Cond.code x code maxLocals ret :: tables_1) hat d (List.mem_cons_of_mem _ hd)
  obtain ⟨i0, ei0⟩ := is_v g3
  obtain rfl : w0 = (.int i0) := Option.some.inj ei0
  obtain ⟨i1, ei1⟩ := isL_v g5
  obtain rfl : w1 = (.long i1) := Option.some.inj ei1
  obtain ⟨i2, ei2⟩ := is_v g7
  obtain rfl : w2 = (.int i2) := Option.some.inj ei2
  obtain ⟨i3, ei3⟩ := isL_v g9
  obtain rfl : w3 = (.long i3) := Option.some.inj ei3
  obtain ⟨i4, ei4⟩ := is_v g11
  obtain rfl : w4 = (.int i4) := Option.some.inj ei4
  obtain ⟨i5, ei5⟩ := is_v g12
  obtain rfl : w5 = (.int i5) := Option.some.inj ei5
  obtain ⟨n, o, h1, h2, h3, v, L, rfl, ⟨hq1, N, _⟩, hq⟩ := own_rm0 l s _ hw i0 i1 i2 i3 i4 i5 s.heap s.heap.size (Nat.le_refl _)  tables_1 p e ha hc hk s m _ below hf ((Spec.applies_iff_loose hf).mp happ).1 ⟨rfl, State.Warmed39.refl s, rfl⟩ trivial
  obtain rfl : v = some (.int 1) := by rw [hq1, own_plain i0 i1 i2 i3 i4 i5]
  exact ⟨n, _, h1, h2, h3, hpost _ _ _ _ _ _ ⟨Cond.after_iff.mpr rfl, Cond.after_iff.mpr (eq_i res_at (Term.int_eval (1)) rfl)⟩ ⟨hq.1, hq.2.1, (hq.2.2.sift fun y hy => Or.inr (N y hy)).mono (by decide) (by decide)⟩⟩
theorem main_1_1 : Claimed_1_1 := own_comes fun _ _ _ _ _ _ h hF => ⟨h.1, hF⟩
theorem main_1_2 : Claimed_1_2 := own_comes fun _ _ _ _ _ _ h hF => ⟨h.2, hF⟩
end Jvm.Pilot.@@N@@
namespace Jvm.Pilot.@@N@@
open Jvm Jvm.ClassFile Sem Op Lib Jvm.Free Jvm.Stand Jvm.Pilot.@@N@@.Jvm.D
/-! MADE BY PROGRAM (witnessworld.py) out of the Statement's table words and the real class files: 11 classes; the members and pool entries that the words name. The judged class is class 1, her method 1. -/
namespace start1
open Jvm.ClassFile
def u (s : String) : CpInfo := .utf8 (stringToUtf16 s)
/-- a pool by its gaps: so many unusable entries, then the entry; so many at the end -/
def gap : Nat → List CpInfo → List CpInfo
  | 0, r => r
  | n + 1, r => .unusable :: gap n r
def poolList (es : List (Nat × CpInfo)) (last : Nat) : List CpInfo := es.foldr (fun e r => gap e.1 (e.2 :: r)) (gap last [])
def pool (es : List (Nat × CpInfo)) (last : Nat) : Array CpInfo := ⟨poolList es last⟩
def fileOf (pool : Array CpInfo) (this : Nat) (attrs : Array Attribute := #[]) (ms : Array MethodInfo := #[]) (fl : Nat := 33) (sup : Nat := 0) (ifs : Array Nat := #[]) (fds : Array FieldInfo := #[]) : ClassFile where
  minorVersion := 0
  majorVersion := 65
  constantPool := pool
  accessFlags := fl
  thisClass := this
  superClass := sup
  interfaces := ifs
  fields := fds
  methods := ms
  attributes := attrs
def plain (name : String) (sup : Option ClassId) : Class where
  name := name
  kind := .ordinary
  loader := none
  accessFlags := 33
  super := sup
  interfaces := #[]
  cf := none
  fields := #[]
  methods := #[]
  instanceTypes := #[]
  staticTypes := #[]
  resolved := #[]
  callSites := []
  init := .initialized
  statics := none
  mirror := none

def pool0 : Array CpInfo := pool [(5, u "<init>"), (0, u "()V"), (1, .class_ 10), (1, u "java/lang/Object")] 113

def k0c0 : Code := { maxStack := 0, maxLocals := 1, code := object_method_1_code, exceptionTable := #[], attributes := #[] }
def k0m0 : Method := { name := "<init>", desc := "()V", sig := { parameters := [], returnType := none }, accessFlags := 1, code := some k0c0 }
/-- java/lang/Object -/
def k0 : Class := { plain "java/lang/Object" none with
  accessFlags := 33
  interfaces := #[]
  cf := some (fileOf pool0 8 #[] #[{ accessFlags := 1, nameIndex := 5, descriptorIndex := 6, attributes := #[] }] 33 0 #[] #[])
  fields := #[]
  methods := #[k0m0]
  instanceTypes := #[]
  staticTypes := #[]
  resolved := Array.replicate 124 none
  statics := none }

def pool1 : Array CpInfo := pool [(2, .class_ 4), (1, u "java/lang/Object"), (0, u "<init>"), (0, u "()V"), (0, .class_ 8), (0, u "com/example/strom/strom/journal/Record"), (0, .methodref 7 10), (0, .nameAndType 5 11), (0, u "(J[B[B)V"), (0, .class_ 13), (0, u "com/example/strom/strom/broker/ReadAllowance"), (0, .methodref 12 15), (0, .nameAndType 5 16), (0, u "(IJ)V"), (0, .methodref 12 18), (0, .nameAndType 19 20), (0, u "part"), (0, u "(IJ)Lcom/example/strom/strom/broker/ReadAllowance;"), (0, .methodref 12 22), (0, .nameAndType 23 24), (0, u "spend"), (0, u "(Lcom/example/strom/strom/journal/Record;)V"), (0, .methodref 12 26), (0, .nameAndType 27 28), (0, u "isLeft"), (0, u "()Z"), (0, .class_ 30), (0, u "com/example/strom/strom/broker/ReadAllowanceIsLeftPinLaw"), (2, u "law"), (0, u "(IJIJII)Z")] 5

def k1m0 : Method := { name := "<init>", desc := "()V", sig := { parameters := [], returnType := none }, accessFlags := 1, code := none }
def k1c1 : Code := { maxStack := 6, maxLocals := 27, code := code, exceptionTable := #[], attributes := #[] }
def k1m1 : Method := { name := "law", desc := "(IJIJII)Z", sig := { parameters := [.int, .long, .int, .long, .int, .int], returnType := some .boolean }, accessFlags := 9, code := some k1c1 }
/-- com/example/strom/strom/broker/ReadAllowanceIsLeftPinLaw -/
def k1 : Class := { plain "com/example/strom/strom/broker/ReadAllowanceIsLeftPinLaw" (some 0) with
  accessFlags := 49
  interfaces := #[]
  cf := some (fileOf pool1 29 #[] #[{ accessFlags := 1, nameIndex := 5, descriptorIndex := 6, attributes := #[] }, { accessFlags := 9, nameIndex := 33, descriptorIndex := 34, attributes := #[] }] 49 2 #[] #[])
  fields := #[]
  methods := #[k1m0, k1m1]
  instanceTypes := #[]
  staticTypes := #[]
  resolved := Array.replicate 40 none
  statics := none }

def pool2 : Array CpInfo := pool [(1, .methodref 2 3), (0, .class_ 4), (0, .nameAndType 5 6), (0, u "java/lang/Object"), (0, u "<init>"), (0, u "()V"), (0, .class_ 8), (0, u "java/lang/Record")] 13

def k2c0 : Code := { maxStack := 1, maxLocals := 1, code := jdk_30_method_1_code, exceptionTable := #[], attributes := #[] }
def k2m0 : Method := { name := "<init>", desc := "()V", sig := { parameters := [], returnType := none }, accessFlags := 4, code := some k2c0 }
/-- java/lang/Record -/
def k2 : Class := { plain "java/lang/Record" (some 0) with
  accessFlags := 1057
  interfaces := #[]
  cf := some (fileOf pool2 7 #[] #[{ accessFlags := 4, nameIndex := 5, descriptorIndex := 6, attributes := #[] }] 1057 2 #[] #[])
  fields := #[]
  methods := #[k2m0]
  instanceTypes := #[]
  staticTypes := #[]
  resolved := Array.replicate 22 none
  statics := none }

def pool3 : Array CpInfo := pool [(1, .methodref 2 3), (0, .class_ 4), (0, .nameAndType 5 6), (0, u "java/lang/Record"), (0, u "<init>"), (0, u "()V"), (0, .fieldref 8 9), (0, .class_ 10), (0, .nameAndType 11 12), (0, u "com/example/strom/strom/journal/Record"), (0, u "sequence"), (0, u "J"), (0, .fieldref 8 14), (0, .nameAndType 15 16), (0, u "key"), (0, u "[B"), (0, .fieldref 8 18), (0, .nameAndType 19 16), (0, u "body"), (12, u "(J[B[B)V"), (7, u "()[B")] 22

def k3c0 : Code := { maxStack := 3, maxLocals := 5, code := prog_31_method_1_code, exceptionTable := #[], attributes := #[] }
def k3m0 : Method := { name := "<init>", desc := "(J[B[B)V", sig := { parameters := [.long, (.array .byte), (.array .byte)], returnType := none }, accessFlags := 1, code := some k3c0 }
def k3c1 : Code := { maxStack := 1, maxLocals := 1, code := prog_31_method_6_code, exceptionTable := #[], attributes := #[] }
def k3m1 : Method := { name := "key", desc := "()[B", sig := { parameters := [], returnType := some (.array .byte) }, accessFlags := 1, code := some k3c1 }
def k3c2 : Code := { maxStack := 1, maxLocals := 1, code := prog_31_method_7_code, exceptionTable := #[], attributes := #[] }
def k3m2 : Method := { name := "body", desc := "()[B", sig := { parameters := [], returnType := some (.array .byte) }, accessFlags := 1, code := some k3c2 }
/-- com/example/strom/strom/journal/Record -/
def k3 : Class := { plain "com/example/strom/strom/journal/Record" (some 2) with
  accessFlags := 49
  interfaces := #[]
  cf := some (fileOf pool3 8 #[] #[{ accessFlags := 1, nameIndex := 5, descriptorIndex := 32, attributes := #[] }, { accessFlags := 1, nameIndex := 15, descriptorIndex := 40, attributes := #[] }, { accessFlags := 1, nameIndex := 19, descriptorIndex := 40, attributes := #[] }] 49 2 #[] #[{ accessFlags := 18, nameIndex := 11, descriptorIndex := 12, attributes := #[] }, { accessFlags := 18, nameIndex := 15, descriptorIndex := 16, attributes := #[] }, { accessFlags := 18, nameIndex := 19, descriptorIndex := 16, attributes := #[] }])
  fields := #[{ name := "sequence", type := .long, accessFlags := 18, slot := 0, constantValue := 0 }, { name := "key", type := (.array .byte), accessFlags := 18, slot := 1, constantValue := 0 }, { name := "body", type := (.array .byte), accessFlags := 18, slot := 2, constantValue := 0 }]
  methods := #[k3m0, k3m1, k3m2]
  instanceTypes := #[.long, (.array .byte), (.array .byte)]
  staticTypes := #[]
  resolved := Array.replicate 63 none
  statics := none }

def pool4 : Array CpInfo := pool [(1, .methodref 2 3), (0, .class_ 4), (0, .nameAndType 5 6), (0, u "com/example/strom/strom/broker/ReadAllowance"), (0, u "<init>"), (0, u "(Lcom/example/strom/strom/broker/ReadAllowance;IJ)V"), (0, .methodref 8 9), (0, .class_ 10), (0, .nameAndType 5 11), (0, u "java/lang/Object"), (0, u "()V"), (0, .fieldref 2 13), (0, .nameAndType 14 15), (0, u "whole"), (0, u "Lcom/example/strom/strom/broker/ReadAllowance;"), (0, .fieldref 2 17), (0, .nameAndType 18 19), (0, u "records"), (0, u "I"), (0, .fieldref 2 21), (0, .nameAndType 22 23), (0, u "bytes"), (0, u "J"), (0, .methodref 2 25), (0, .nameAndType 26 27), (0, u "isLeft"), (0, u "()Z"), (0, .methodref 29 30), (0, .class_ 31), (0, .nameAndType 32 33), (0, u "com/example/strom/strom/journal/Record"), (0, u "key"), (0, u "()[B"), (0, .methodref 29 35), (0, .nameAndType 36 33), (0, u "body"), (0, .methodref 2 38), (0, .nameAndType 39 40), (0, u "spend"), (0, u "(Lcom/example/strom/strom/journal/Record;)V"), (0, u "(IJ)V"), (2, u "part"), (0, u "(IJ)Lcom/example/strom/strom/broker/ReadAllowance;")] 3

def k4c0 : Code := { maxStack := 5, maxLocals := 4, code := prog_4_method_1_code, exceptionTable := #[], attributes := #[] }
def k4m0 : Method := { name := "<init>", desc := "(IJ)V", sig := { parameters := [.int, .long], returnType := none }, accessFlags := 0, code := some k4c0 }
def k4c1 : Code := { maxStack := 3, maxLocals := 5, code := prog_4_method_2_code, exceptionTable := #[], attributes := #[] }
def k4m1 : Method := { name := "<init>", desc := "(Lcom/example/strom/strom/broker/ReadAllowance;IJ)V", sig := { parameters := [(.object "com/example/strom/strom/broker/ReadAllowance"), .int, .long], returnType := none }, accessFlags := 2, code := some k4c1 }
def k4c2 : Code := { maxStack := 6, maxLocals := 4, code := prog_4_method_3_code, exceptionTable := #[], attributes := #[] }
def k4m2 : Method := { name := "part", desc := "(IJ)Lcom/example/strom/strom/broker/ReadAllowance;", sig := { parameters := [.int, .long], returnType := some (.object "com/example/strom/strom/broker/ReadAllowance") }, accessFlags := 0, code := some k4c2 }
def k4c3 : Code := { maxStack := 4, maxLocals := 1, code := prog_4_method_4_code, exceptionTable := #[], attributes := #[] }
def k4m3 : Method := { name := "isLeft", desc := "()Z", sig := { parameters := [], returnType := some .boolean }, accessFlags := 0, code := some k4c3 }
def k4c4 : Code := { maxStack := 5, maxLocals := 2, code := prog_4_method_5_code, exceptionTable := #[], attributes := #[] }
def k4m4 : Method := { name := "spend", desc := "(Lcom/example/strom/strom/journal/Record;)V", sig := { parameters := [(.object "com/example/strom/strom/journal/Record")], returnType := none }, accessFlags := 0, code := some k4c4 }
/-- com/example/strom/strom/broker/ReadAllowance -/
def k4 : Class := { plain "com/example/strom/strom/broker/ReadAllowance" (some 0) with
  accessFlags := 32
  interfaces := #[]
  cf := some (fileOf pool4 2 #[] #[{ accessFlags := 0, nameIndex := 5, descriptorIndex := 41, attributes := #[] }, { accessFlags := 2, nameIndex := 5, descriptorIndex := 6, attributes := #[] }, { accessFlags := 0, nameIndex := 44, descriptorIndex := 45, attributes := #[] }, { accessFlags := 0, nameIndex := 26, descriptorIndex := 27, attributes := #[] }, { accessFlags := 0, nameIndex := 39, descriptorIndex := 40, attributes := #[] }] 32 8 #[] #[{ accessFlags := 18, nameIndex := 14, descriptorIndex := 15, attributes := #[] }, { accessFlags := 2, nameIndex := 18, descriptorIndex := 19, attributes := #[] }, { accessFlags := 2, nameIndex := 22, descriptorIndex := 23, attributes := #[] }])
  fields := #[{ name := "whole", type := (.object "com/example/strom/strom/broker/ReadAllowance"), accessFlags := 18, slot := 0, constantValue := 0 }, { name := "records", type := .int, accessFlags := 2, slot := 1, constantValue := 0 }, { name := "bytes", type := .long, accessFlags := 2, slot := 2, constantValue := 0 }]
  methods := #[k4m0, k4m1, k4m2, k4m3, k4m4]
  instanceTypes := #[(.object "com/example/strom/strom/broker/ReadAllowance"), .int, .long]
  staticTypes := #[]
  resolved := Array.replicate 49 none
  statics := none }

def pool5 : Array CpInfo := pool [(1, u "java/lang/Cloneable"), (0, .class_ 1), (0, u "java/lang/Object"), (0, .class_ 3)] 3

/-- java/lang/Cloneable -/
def k5 : Class := { plain "java/lang/Cloneable" (some 0) with
  accessFlags := 1537
  interfaces := #[]
  cf := some (fileOf pool5 2 #[] #[] 1537 4 #[] #[])
  fields := #[]
  methods := #[]
  instanceTypes := #[]
  staticTypes := #[]
  resolved := Array.replicate 8 none
  statics := none }

def pool6 : Array CpInfo := pool [(1, u "java/io/Serializable"), (0, .class_ 1), (0, u "java/lang/Object"), (0, .class_ 3)] 3

/-- java/io/Serializable -/
def k6 : Class := { plain "java/io/Serializable" (some 0) with
  accessFlags := 1537
  interfaces := #[]
  cf := some (fileOf pool6 2 #[] #[] 1537 4 #[] #[])
  fields := #[]
  methods := #[]
  instanceTypes := #[]
  staticTypes := #[]
  resolved := Array.replicate 8 none
  statics := none }

/-- the primitive byte -/
def k7 : Class := { plain "byte" none with kind := .primitive 'B', accessFlags := 0x411 }
/-- [B -/
def k8 : Class := { plain "[B" (some 0) with kind := .array 7 .byte, interfaces := #[5, 6], accessFlags := 1041 }

/-- the primitive int -/
def k9 : Class := { plain "int" none with kind := .primitive 'I', accessFlags := 0x411 }
/-- [I -/
def k10 : Class := { plain "[I" (some 0) with kind := .array 9 .int, interfaces := #[5, 6], accessFlags := 1041 }

def heap : Heap := #[]
def classes : Array Class := #[k0, k1, k2, k3, k4, k5, k6, k7, k8, k9, k10]
def interned : List (Array UInt16 × Addr) := []
def slotsUsed : Nat := 0
def theMethod : MethodId := ⟨1, 1⟩
def args0 : Array Value := #[.int 5, .long 6, .int 7, .long 1, .int 3, .int 3]
def aboutOver (below : List Frame) : State where
  vm := { classes := classes, interned := interned.toArray }
  heap := heap
  slotsUsed := slotsUsed
  threads := #[{ frames := .invoking theMethod args0 :: below }]
def below0 : List Frame := [.native { method := ⟨0, 0⟩, args := #[] }]
def about1 : State := aboutOver below0
def p0 : Program := .bare "" "" ""
def e0 : Env := launch0.env 0 0 0
theorem w_frames : about1.frames = Frame.invoking theMethod args0 :: below0 := rfl
set_option maxRecDepth 65536 in
theorem w_args : argsFit about1.vm theMethod args0 = true := by decide +kernel
set_option maxRecDepth 65536 in
theorem w_heap : heapFits about1 = true := by decide +kernel
set_option maxRecDepth 65536 in
theorem w_runnable : about1.curStatus? = some .runnable := by decide +kernel
set_option maxRecDepth 65536 in
theorem w_alone : about1.alone = true := by decide +kernel
set_option maxRecDepth 65536 in
theorem w_named : about1.methodNamed? x = some theMethod := by decide +kernel
set_option maxRecDepth 65536 in
theorem w_hears : about1.hears theMethod below0 = true := by decide +kernel
set_option maxRecDepth 65536 in
theorem w_ripe : about1.ripe theMethod args0 below0 = true := by decide +kernel
theorem w_running : about1.status = .running := rfl
set_option maxRecDepth 65536 in
theorem w_room : about1.hasRoom e0.platform room_1 = true :=
  launch0.hasRoom_least _ room_1 (by decide +kernel) (by decide +kernel) (by decide +kernel) (by decide +kernel) (by decide +kernel) (by decide +kernel)
theorem allAtoms_all (ts : List Jvm.Cond) (a : Array Jvm.Value) (st : Jvm.State) : (allAtoms ts).before a st = ts.all (fun c => c.before a st) := by
  induction ts with
  | nil => rfl
  | cons c t ih =>
    show (Jvm.Cond.and c (allAtoms t)).before a st = _
    rw [Jvm.Cond.before_and, ih, List.all_cons]
def words1 : List Jvm.Cond := Jvm.Cond.code x code maxLocals ret :: tables_1
/-- a 'code' word, met by the world's own term for the bytes: nothing is compared byte by byte -/
theorem code_word {y : MethodName} {bytes : ByteArray} {mx : Nat} {rt : Option FieldType} {a : Array Value} {s : State} {m : MethodId} {meth : Method} {c : Code} (h1 : s.methodNamed? y = some m) (h2 : s.vm.method? m = some meth) (h3 : meth.code = some c) (h4 : c.code = bytes)
    (h5 : (c.maxLocals == mx && c.exceptionTable.isEmpty && decide (c.maxStack ≤ mostOperands) && decide (meth.sig.returnType = rt) && !meth.locks && decide (parseMethodDescriptor y.desc = some meth.sig)) = true) : (Jvm.Cond.code y bytes mx rt).before a s = true := by
  simp only [Bool.and_eq_true, beq_iff_eq, Bool.not_eq_true', decide_eq_true_eq] at h5
  obtain ⟨⟨⟨⟨⟨g1, g2⟩, g3⟩, g4⟩, g5⟩, g6⟩ := h5
  simp [Cond.before, Cond.holds, Cond.value, h1, h2, h3, h4, g1, g2, g3, g4, g5, g6]
def isCode : Jvm.Cond → Bool
  | .code _ _ _ _ => true
  | _ => false
theorem all_split {L : List Jvm.Cond} {P : Jvm.Cond → Bool} (h1 : L.all (fun c => isCode c || P c) = true) (h2 : ∀ c ∈ L.filter isCode, P c = true) : L.all P = true := by
  refine List.all_eq_true.mpr fun c hc => ?_
  have h := List.all_eq_true.mp h1 c hc
  rcases Bool.eq_false_or_eq_true (isCode c) with hi | hi
  · exact h2 c (List.mem_filter.mpr ⟨hc, hi⟩)
  · simpa [hi] using h
set_option maxRecDepth 65536 in
theorem w_c0 : (Jvm.Cond.code x code maxLocals ret).before args0 about1 = true := code_word (m := ⟨1, 1⟩) (meth := k1m1) (c := k1c1) (by decide +kernel) rfl rfl rfl (by decide +kernel)
set_option maxRecDepth 65536 in
theorem w_c1 : (Jvm.Cond.code ({ cls := "com/example/strom/strom/journal/Record", name := "<init>", desc := "(J[B[B)V" } : Jvm.MethodName) prog_31_method_1_code (5 : Nat) (Option.none : Option Jvm.ClassFile.FieldType)).before args0 about1 = true := code_word (m := ⟨3, 0⟩) (meth := k3m0) (c := k3c0) (by decide +kernel) rfl rfl rfl (by decide +kernel)
set_option maxRecDepth 65536 in
theorem w_c2 : (Jvm.Cond.code ({ cls := "java/lang/Record", name := "<init>", desc := "()V" } : Jvm.MethodName) jdk_30_method_1_code (1 : Nat) (Option.none : Option Jvm.ClassFile.FieldType)).before args0 about1 = true := code_word (m := ⟨2, 0⟩) (meth := k2m0) (c := k2c0) (by decide +kernel) rfl rfl rfl (by decide +kernel)
set_option maxRecDepth 65536 in
theorem w_c3 : (Jvm.Cond.code ({ cls := "java/lang/Object", name := "<init>", desc := "()V" } : Jvm.MethodName) object_method_1_code (1 : Nat) (Option.none : Option Jvm.ClassFile.FieldType)).before args0 about1 = true := code_word (m := ⟨0, 0⟩) (meth := k0m0) (c := k0c0) (by decide +kernel) rfl rfl rfl (by decide +kernel)
set_option maxRecDepth 65536 in
theorem w_c4 : (Jvm.Cond.code ({ cls := "com/example/strom/strom/broker/ReadAllowance", name := "<init>", desc := "(IJ)V" } : Jvm.MethodName) prog_4_method_1_code (4 : Nat) (Option.none : Option Jvm.ClassFile.FieldType)).before args0 about1 = true := code_word (m := ⟨4, 0⟩) (meth := k4m0) (c := k4c0) (by decide +kernel) rfl rfl rfl (by decide +kernel)
set_option maxRecDepth 65536 in
theorem w_c5 : (Jvm.Cond.code ({ cls := "com/example/strom/strom/broker/ReadAllowance", name := "<init>", desc := "(Lcom/example/strom/strom/broker/ReadAllowance;IJ)V" } : Jvm.MethodName) prog_4_method_2_code (5 : Nat) (Option.none : Option Jvm.ClassFile.FieldType)).before args0 about1 = true := code_word (m := ⟨4, 1⟩) (meth := k4m1) (c := k4c1) (by decide +kernel) rfl rfl rfl (by decide +kernel)
set_option maxRecDepth 65536 in
theorem w_c6 : (Jvm.Cond.code ({ cls := "com/example/strom/strom/broker/ReadAllowance", name := "part", desc := "(IJ)Lcom/example/strom/strom/broker/ReadAllowance;" } : Jvm.MethodName) prog_4_method_3_code (4 : Nat) (Option.some (Jvm.ClassFile.FieldType.object "com/example/strom/strom/broker/ReadAllowance"))).before args0 about1 = true := code_word (m := ⟨4, 2⟩) (meth := k4m2) (c := k4c2) (by decide +kernel) rfl rfl rfl (by decide +kernel)
set_option maxRecDepth 65536 in
theorem w_c7 : (Jvm.Cond.code ({ cls := "com/example/strom/strom/broker/ReadAllowance", name := "spend", desc := "(Lcom/example/strom/strom/journal/Record;)V" } : Jvm.MethodName) prog_4_method_5_code (2 : Nat) (Option.none : Option Jvm.ClassFile.FieldType)).before args0 about1 = true := code_word (m := ⟨4, 4⟩) (meth := k4m4) (c := k4c4) (by decide +kernel) rfl rfl rfl (by decide +kernel)
set_option maxRecDepth 65536 in
theorem w_c8 : (Jvm.Cond.code ({ cls := "com/example/strom/strom/journal/Record", name := "key", desc := "()[B" } : Jvm.MethodName) prog_31_method_6_code (1 : Nat) (Option.some (Jvm.ClassFile.FieldType.array Jvm.ClassFile.FieldType.byte))).before args0 about1 = true := code_word (m := ⟨3, 1⟩) (meth := k3m1) (c := k3c1) (by decide +kernel) rfl rfl rfl (by decide +kernel)
set_option maxRecDepth 65536 in
theorem w_c9 : (Jvm.Cond.code ({ cls := "com/example/strom/strom/journal/Record", name := "body", desc := "()[B" } : Jvm.MethodName) prog_31_method_7_code (1 : Nat) (Option.some (Jvm.ClassFile.FieldType.array Jvm.ClassFile.FieldType.byte))).before args0 about1 = true := code_word (m := ⟨3, 2⟩) (meth := k3m2) (c := k3c2) (by decide +kernel) rfl rfl rfl (by decide +kernel)
set_option maxRecDepth 65536 in
theorem w_c10 : (Jvm.Cond.code ({ cls := "com/example/strom/strom/broker/ReadAllowance", name := "isLeft", desc := "()Z" } : Jvm.MethodName) prog_4_method_4_code (1 : Nat) (Option.some Jvm.ClassFile.FieldType.boolean)).before args0 about1 = true := code_word (m := ⟨4, 3⟩) (meth := k4m3) (c := k4c3) (by decide +kernel) rfl rfl rfl (by decide +kernel)
def codes1 : List Jvm.Cond := [Jvm.Cond.code x code maxLocals ret, Jvm.Cond.code ({ cls := "com/example/strom/strom/journal/Record", name := "<init>", desc := "(J[B[B)V" } : Jvm.MethodName) prog_31_method_1_code (5 : Nat) (Option.none : Option Jvm.ClassFile.FieldType), Jvm.Cond.code ({ cls := "java/lang/Record", name := "<init>", desc := "()V" } : Jvm.MethodName) jdk_30_method_1_code (1 : Nat) (Option.none : Option Jvm.ClassFile.FieldType), Jvm.Cond.code ({ cls := "java/lang/Object", name := "<init>", desc := "()V" } : Jvm.MethodName) object_method_1_code (1 : Nat) (Option.none : Option Jvm.ClassFile.FieldType), Jvm.Cond.code ({ cls := "com/example/strom/strom/broker/ReadAllowance", name := "<init>", desc := "(IJ)V" } : Jvm.MethodName) prog_4_method_1_code (4 : Nat) (Option.none : Option Jvm.ClassFile.FieldType), Jvm.Cond.code ({ cls := "com/example/strom/strom/broker/ReadAllowance", name := "<init>", desc := "(Lcom/example/strom/strom/broker/ReadAllowance;IJ)V" } : Jvm.MethodName) prog_4_method_2_code (5 : Nat) (Option.none : Option Jvm.ClassFile.FieldType), Jvm.Cond.code ({ cls := "com/example/strom/strom/broker/ReadAllowance", name := "part", desc := "(IJ)Lcom/example/strom/strom/broker/ReadAllowance;" } : Jvm.MethodName) prog_4_method_3_code (4 : Nat) (Option.some (Jvm.ClassFile.FieldType.object "com/example/strom/strom/broker/ReadAllowance")), Jvm.Cond.code ({ cls := "com/example/strom/strom/broker/ReadAllowance", name := "spend", desc := "(Lcom/example/strom/strom/journal/Record;)V" } : Jvm.MethodName) prog_4_method_5_code (2 : Nat) (Option.none : Option Jvm.ClassFile.FieldType), Jvm.Cond.code ({ cls := "com/example/strom/strom/journal/Record", name := "key", desc := "()[B" } : Jvm.MethodName) prog_31_method_6_code (1 : Nat) (Option.some (Jvm.ClassFile.FieldType.array Jvm.ClassFile.FieldType.byte)), Jvm.Cond.code ({ cls := "com/example/strom/strom/journal/Record", name := "body", desc := "()[B" } : Jvm.MethodName) prog_31_method_7_code (1 : Nat) (Option.some (Jvm.ClassFile.FieldType.array Jvm.ClassFile.FieldType.byte)), Jvm.Cond.code ({ cls := "com/example/strom/strom/broker/ReadAllowance", name := "isLeft", desc := "()Z" } : Jvm.MethodName) prog_4_method_4_code (1 : Nat) (Option.some Jvm.ClassFile.FieldType.boolean)]
set_option maxRecDepth 65536 in
theorem codes_eq : words1.filter isCode = codes1 := rfl
theorem w_codes : ∀ c ∈ words1.filter isCode, c.before args0 about1 = true := by
  rw [codes_eq]
  intro c hc
  simp only [codes1, List.mem_cons, List.not_mem_nil, or_false] at hc
  rcases hc with rfl | rfl | rfl | rfl | rfl | rfl | rfl | rfl | rfl | rfl | rfl
  · exact w_c0
  · exact w_c1
  · exact w_c2
  · exact w_c3
  · exact w_c4
  · exact w_c5
  · exact w_c6
  · exact w_c7
  · exact w_c8
  · exact w_c9
  · exact w_c10
set_option maxRecDepth 65536 in
theorem w_t1 : (words1.take 24).all (fun c => isCode c || c.before args0 about1) = true := by decide +kernel
set_option maxRecDepth 65536 in
theorem w_t2 : ((words1.drop 24).take 24).all (fun c => isCode c || c.before args0 about1) = true := by decide +kernel
set_option maxRecDepth 65536 in
theorem w_t3 : ((words1.drop 24).drop 24).all (fun c => isCode c || c.before args0 about1) = true := by decide +kernel
theorem w_tables : (allAtoms (Jvm.Cond.code x code maxLocals ret :: tables_1)).before args0 about1 = true := by
  rw [allAtoms_all]
  show words1.all (fun c => c.before args0 about1) = true
  refine all_split ?_ w_codes
  rw [← List.take_append_drop 24 words1, List.all_append, w_t1, ← List.take_append_drop 24 (words1.drop 24), List.all_append, w_t2, w_t3]
  rfl
set_option maxRecDepth 65536 in
theorem w_case : (Jvm.Cond.and given_1 narrow_1).before args0 about1 = true := by decide +kernel
theorem w_applies : (headSpec (Jvm.Cond.code x code maxLocals ret :: tables_1) room_1).applies x e0.platform about1 = true :=
  (Spec.applies_iff w_frames).mpr ⟨w_running, w_runnable, w_alone, w_named, w_hears, w_ripe, w_room, w_tables⟩
theorem atStart : AtStart classFile x code maxLocals ret World_1 tables_1 room_1 Calls_1 rest_1 Pre_1 launch0 p0 e0 about1 theMethod args0 below0 :=
  ⟨lists_1, trivial, launch0.admits_env _ _ _, launch0.least_env, fairChoices_fair.cas, fairChoices_fair.clock, w_frames, w_args, w_heap, w_applies, trivial, trivial, w_case⟩
end start1
theorem witness_1 : WitnessClaimed_1 := ⟨start1.p0, start1.e0, start1.about1, start1.theMethod, start1.args0, start1.below0, start1.atStart⟩
end Jvm.Pilot.@@N@@
